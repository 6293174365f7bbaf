import JvmDerived
import JvmDerived.Pilot.@@N@@Statement
import JvmDerived.Pilot.@@N@@Code
set_option linter.unusedVariables false
set_option linter.unusedSimpArgs false
namespace Jvm.OwnKit
open Sem ClassFile Op Lib Jvm.Stand Jvm.Free Jvm.LawKit Jvm.RoadKit
/-- what stays the same through one method's walk: program, environment, start, method, arguments, frames below, the method's entry and code, the state with which the walk began -/
abbrev Cx := Program × Env × State × MethodId × Array Value × List Frame × Method × Code × State
/-- where a walk stands: heap h, what was written lies at n0 or above, so many new cells and slots, pc, locals, stack -/
def Wk (κ : Cx) (l : Launch) (Z : State) (own nm : String) (code : ByteArray) (ml : Nat) (ret : Option FieldType) (R : Room) (n0 : Nat) (h : Heap) (cells slots pc : Nat) (Ls : Array Slot) (St : List Value) : Prop :=
  match κ with
  | (p, e, s, m, args, below, meth, c, S0) =>
    (p.tables.exec = Jvm.exec ∧ c.code = code ∧ c.maxLocals = ml ∧ meth.sig.returnType = ret ∧ meth.locks = false ∧ meth.name = nm ∧ Z.Warmed39 s.vm ∧ s.vm.findClass own = some m.cls) ∧
    ∃ T locs, Stand p l e R s m args below meth c T locs cells slots ∧ Fr n0 locs ∧ T.heap = h ∧ ∀ t, Steps p.tables e below (T.setTop (mkF m pc Ls St)) t → Steps p.tables e below S0 t
/-- the walk has come to its end -/
def Dn (κ : Cx) (n0 : Nat) (Q : Option Value → Heap → Prop) (cells slots : Nat) : Prop :=
  match κ with
  | (p, e, s, _, _, below, _, _, S0) => ∃ s₂ o, Steps p.tables e below S0 s₂ ∧ s₂.status = .running ∧ Ended s₂ below o ∧ ∃ v L, o = .returned v ∧ (Q v s₂.heap ∧ Fr n0 L) ∧ FrameEnd s o s₂ L cells slots
/-- a method's contract: called with these arguments over this heap it returns, and Q holds of what it returns and of the heap -/
def Met (l : Launch) (Z : State) (y : MethodName) (code : ByteArray) (ml : Nat) (ret : Option FieldType) (R : Room) (n0 : Nat) (as : Array Value) (h0 : Heap) (Q : Option Value → Heap → Prop) : Prop :=
  ∀ ws : List Cond, MetFree l y (head1 (Cond.code y code ml ret :: ws) R) (fun a U => a = as ∧ Z.Warmed39 U.vm ∧ U.heap = h0) (fun _ _ _ _ _ => True) (fun _ U o U' => ∃ v L, o = .returned v ∧ (Q v U'.heap ∧ Fr n0 L) ∧ FrameEnd U o U' L R.cells R.slots)
section Own
variable {κ : Cx} {l : Launch} {Z : State} {own nm : String} {code : ByteArray} {ml : Nat} {ret : Option FieldType} {R : Room} {n0 : Nat} {h : Heap} {cells slots pc q : Nat} {Ls : Array Slot} {St : List Value} {a0 : Array Value}
theorem Met.of {y : MethodName} {as : Array Value} {Q : Option Value → Heap → Prop} (hpl : plainFor y = true) (hef : ∀ m, entryFrame m as ml = mkF m 0 Ls []) (body : ∀ κ, Wk κ l Z y.cls y.name code ml ret R n0 h 0 0 0 Ls [] → Dn κ n0 Q R.cells R.slots) : Met l Z y code ml ret R n0 as h Q := by
  intro ws
  refine MetFree.of_bodySF hpl hisR ?_
  intro p e s m args below meth c s₁ Bd hml0 hP hK
  obtain ⟨ha, hZ, hh⟩ := hP
  have e0 : s₁.heap = h := by rw [← hh, Bd.state]; rfl
  exact body (p, e, s, m, args, below, meth, c, s₁.setTop (entryFrame m args ml)) ⟨⟨Bd.exec, Bd.bytes, hml0, Bd.returns, Bd.notSynchronized, (name_of_methodNamed Bd.named Bd.method).1, hZ, findClass_of_methodNamed Bd.named⟩, s₁, [], Stand.of_body Bd, Fr.nil n0, e0, fun t k => castTop (by rw [ha]; exact hef m) k⟩
theorem Wk.step (w : Wk κ l Z own nm code ml ret R n0 h cells slots pc Ls St) {Ls' : Array Slot} {St' : List Value}
    (f : ∀ {p : Program} {e : Env} {below : List Frame} {m : MethodId} {c : Code} {T t : State}, p.tables.exec = Jvm.exec → c.code = code → At T m c below → Steps p.tables e below (T.setTop (mkF m q Ls' St')) t → Steps p.tables e below (T.setTop (mkF m pc Ls St)) t) : Wk κ l Z own nm code ml ret R n0 h cells slots q Ls' St' := by
  obtain ⟨p, e, s, m, args, below, meth, c, S0⟩ := κ
  obtain ⟨hs, T, locs, X, N, eT, st⟩ := w
  exact ⟨hs, T, locs, X, N, eT, fun t k => st t (f hs.1 hs.2.1 X.here k)⟩
theorem Wk.stepX (w : Wk κ l Z own nm code ml ret R n0 h cells slots pc Ls St) {Ls' : Array Slot} {St' : List Value}
    (f : ∀ {p : Program} {e : Env} {s : State} {m : MethodId} {args : Array Value} {below : List Frame} {meth : Method} {c : Code} {T t : State} {locs : List Loc}, p.tables.exec = Jvm.exec → c.code = code → Z.Warmed39 s.vm → s.vm.findClass own = some m.cls → Stand p l e R s m args below meth c T locs cells slots → T.heap = h → Steps p.tables e below (T.setTop (mkF m q Ls' St')) t → Steps p.tables e below (T.setTop (mkF m pc Ls St)) t) : Wk κ l Z own nm code ml ret R n0 h cells slots q Ls' St' := by
  obtain ⟨p, e, s, m, args, below, meth, c, S0⟩ := κ
  obtain ⟨hs, T, locs, X, N, eT, st⟩ := w
  exact ⟨hs, T, locs, X, N, eT, fun t k => st t (f hs.1 hs.2.1 hs.2.2.2.2.2.2.1 hs.2.2.2.2.2.2.2 X eT k)⟩
theorem Wk.stepT (w : Wk κ l Z own nm code ml ret R n0 h cells slots pc Ls St) {Ls' : Array Slot} {St' : List Value}
    (f : ∀ {p : Program} {e : Env} {s : State} {m : MethodId} {args : Array Value} {below : List Frame} {meth : Method} {c : Code} {T : State} {locs : List Loc}, p.tables.exec = Jvm.exec → c.code = code → c.maxLocals = ml → Z.Warmed39 s.vm → s.vm.findClass own = some m.cls → Stand p l e R s m args below meth c T locs cells slots → T.heap = h → ∃ T', Stand p l e R s m args below meth c T' locs cells slots ∧ T'.heap = h ∧ ∀ t, Steps p.tables e below (T'.setTop (mkF m q Ls' St')) t → Steps p.tables e below (T.setTop (mkF m pc Ls St)) t) : Wk κ l Z own nm code ml ret R n0 h cells slots q Ls' St' := by
  obtain ⟨p, e, s, m, args, below, meth, c, S0⟩ := κ
  obtain ⟨hs, T, locs, X, N, eT, st⟩ := w
  obtain ⟨T', X', eT', st'⟩ := f hs.1 hs.2.1 hs.2.2.1 hs.2.2.2.2.2.2.1 hs.2.2.2.2.2.2.2 X eT
  exact ⟨hs, T', locs, X', N, eT', fun t k => st t (st' t k)⟩
/-! loads, stores, constants -/
theorem Wk.aloadN (w : Wk κ l Z own nm code ml ret R n0 h cells slots pc Ls St) {k : Fin 4} {v : Value} (hd : decode code pc = .ok (.aload_n k, 1)) (hl : Ls[k.val]? = some (.val v)) (hv : v.isRef = true) (hq : pc + 1 = q) : Wk κ l Z own nm code ml ret R n0 h cells slots q Ls (v :: St) := by
  subst hq; exact w.step fun hx hby hat k => XS.aloadN hat hx rfl (hb hby hd) hl hv k
theorem Wk.aload (w : Wk κ l Z own nm code ml ret R n0 h cells slots pc Ls St) {k : Nat} {v : Value} (hd : decode code pc = .ok (.aload k, 2)) (hl : Ls[k]? = some (.val v)) (hv : v.isRef = true) (hq : pc + 2 = q) : Wk κ l Z own nm code ml ret R n0 h cells slots q Ls (v :: St) := by
  subst hq; exact w.step fun hx hby hat k => XS.aload hat hx rfl (hb hby hd) hl hv k
theorem Wk.iloadN (w : Wk κ l Z own nm code ml ret R n0 h cells slots pc Ls St) {k : Fin 4} {v : Int32} (hd : decode code pc = .ok (.iload_n k, 1)) (hl : Ls[k.val]? = some (.val (.int v))) (hq : pc + 1 = q) : Wk κ l Z own nm code ml ret R n0 h cells slots q Ls (.int v :: St) := by
  subst hq; exact w.step fun hx hby hat k => XS.iloadN hat hx rfl (hb hby hd) hl k
theorem Wk.iload (w : Wk κ l Z own nm code ml ret R n0 h cells slots pc Ls St) {k : Nat} {v : Int32} (hd : decode code pc = .ok (.iload k, 2)) (hl : Ls[k]? = some (.val (.int v))) (hq : pc + 2 = q) : Wk κ l Z own nm code ml ret R n0 h cells slots q Ls (.int v :: St) := by
  subst hq; exact w.step fun hx hby hat k => XS.iload hat hx rfl (hb hby hd) hl k
theorem Wk.lloadN (w : Wk κ l Z own nm code ml ret R n0 h cells slots pc Ls St) {k : Fin 4} {v : Int64} (hd : decode code pc = .ok (.lload_n k, 1)) (hl : Ls[k.val]? = some (.val (.long v))) (hq : pc + 1 = q) : Wk κ l Z own nm code ml ret R n0 h cells slots q Ls (.long v :: St) := by
  subst hq; exact w.step fun hx hby hat k => XT.lloadN hat hx rfl (hb hby hd) hl k
theorem Wk.lload (w : Wk κ l Z own nm code ml ret R n0 h cells slots pc Ls St) {k : Nat} {v : Int64} (hd : decode code pc = .ok (.lload k, 2)) (hl : Ls[k]? = some (.val (.long v))) (hq : pc + 2 = q) : Wk κ l Z own nm code ml ret R n0 h cells slots q Ls (.long v :: St) := by
  subst hq; exact w.step fun hx hby hat k => XT.lload hat hx rfl (hb hby hd) hl k
theorem Wk.dloadN (w : Wk κ l Z own nm code ml ret R n0 h cells slots pc Ls St) {k : Fin 4} {v : UInt64} (hd : decode code pc = .ok (.dload_n k, 1)) (hl : Ls[k.val]? = some (.val (.double v))) (hq : pc + 1 = q) : Wk κ l Z own nm code ml ret R n0 h cells slots q Ls (.double v :: St) := by
  subst hq; exact w.step fun hx hby hat k => XS.dloadN hat hx rfl (hb hby hd) hl k
theorem Wk.dload (w : Wk κ l Z own nm code ml ret R n0 h cells slots pc Ls St) {k : Nat} {v : UInt64} (hd : decode code pc = .ok (.dload k, 2)) (hl : Ls[k]? = some (.val (.double v))) (hq : pc + 2 = q) : Wk κ l Z own nm code ml ret R n0 h cells slots q Ls (.double v :: St) := by
  subst hq; exact w.step fun hx hby hat k => XS.dload hat hx rfl (hb hby hd) hl k
theorem Wk.astoreN {v : Value} (w : Wk κ l Z own nm code ml ret R n0 h cells slots pc Ls (v :: St)) {k : Fin 4} {l' : Array Slot} (hd : decode code pc = .ok (.astore_n k, 1)) (hv : v.isRef = true) (hl : storeLocals Ls k.val v = some l') (hq : pc + 1 = q) : Wk κ l Z own nm code ml ret R n0 h cells slots q l' St := by
  subst hq; exact w.step fun hx hby hat k => XS.astoreN hat hx rfl (hb hby hd) rfl hv hl k
theorem Wk.astore {v : Value} (w : Wk κ l Z own nm code ml ret R n0 h cells slots pc Ls (v :: St)) {k : Nat} {l' : Array Slot} (hd : decode code pc = .ok (.astore k, 2)) (hv : v.isRef = true) (hl : storeLocals Ls k v = some l') (hq : pc + 2 = q) : Wk κ l Z own nm code ml ret R n0 h cells slots q l' St := by
  subst hq; exact w.step fun hx hby hat k => XS.astore hat hx rfl (hb hby hd) rfl hv hl k
theorem Wk.istoreN {x : Int32} (w : Wk κ l Z own nm code ml ret R n0 h cells slots pc Ls (.int x :: St)) {k : Fin 4} {l' : Array Slot} (hd : decode code pc = .ok (.istore_n k, 1)) (hl : storeLocals Ls k.val (.int x) = some l') (hq : pc + 1 = q) : Wk κ l Z own nm code ml ret R n0 h cells slots q l' St := by
  subst hq; exact w.step fun hx hby hat k => XS.istoreN hat hx rfl (hb hby hd) rfl hl k
theorem Wk.istore {x : Int32} (w : Wk κ l Z own nm code ml ret R n0 h cells slots pc Ls (.int x :: St)) {k : Nat} {l' : Array Slot} (hd : decode code pc = .ok (.istore k, 2)) (hl : storeLocals Ls k (.int x) = some l') (hq : pc + 2 = q) : Wk κ l Z own nm code ml ret R n0 h cells slots q l' St := by
  subst hq; exact w.step fun hx hby hat k => XS.istore hat hx rfl (hb hby hd) rfl hl k
theorem Wk.lstoreN {x : Int64} (w : Wk κ l Z own nm code ml ret R n0 h cells slots pc Ls (.long x :: St)) {k : Fin 4} {l' : Array Slot} (hd : decode code pc = .ok (.lstore_n k, 1)) (hl : storeLocals Ls k.val (.long x) = some l') (hq : pc + 1 = q) : Wk κ l Z own nm code ml ret R n0 h cells slots q l' St := by
  subst hq; exact w.step fun hx hby hat k => XT.lstoreN hat hx rfl (hb hby hd) rfl hl k
theorem Wk.lstore {x : Int64} (w : Wk κ l Z own nm code ml ret R n0 h cells slots pc Ls (.long x :: St)) {k : Nat} {l' : Array Slot} (hd : decode code pc = .ok (.lstore k, 2)) (hl : storeLocals Ls k (.long x) = some l') (hq : pc + 2 = q) : Wk κ l Z own nm code ml ret R n0 h cells slots q l' St := by
  subst hq; exact w.step fun hx hby hat k => XT.lstore hat hx rfl (hb hby hd) rfl hl k
theorem Wk.dstoreN {x : UInt64} (w : Wk κ l Z own nm code ml ret R n0 h cells slots pc Ls (.double x :: St)) {k : Fin 4} {l' : Array Slot} (hd : decode code pc = .ok (.dstore_n k, 1)) (hl : storeLocals Ls k.val (.double x) = some l') (hq : pc + 1 = q) : Wk κ l Z own nm code ml ret R n0 h cells slots q l' St := by
  subst hq; exact w.step fun hx hby hat k => XS.dstoreN hat hx rfl (hb hby hd) rfl hl k
theorem Wk.dstore {x : UInt64} (w : Wk κ l Z own nm code ml ret R n0 h cells slots pc Ls (.double x :: St)) {k : Nat} {l' : Array Slot} (hd : decode code pc = .ok (.dstore k, 2)) (hl : storeLocals Ls k (.double x) = some l') (hq : pc + 2 = q) : Wk κ l Z own nm code ml ret R n0 h cells slots q l' St := by
  subst hq; exact w.step fun hx hby hat k => XS.dstore hat hx rfl (hb hby hd) rfl hl k
theorem Wk.iconst (w : Wk κ l Z own nm code ml ret R n0 h cells slots pc Ls St) {i : Int} {z : Int32} (hd : decode code pc = .ok (.iconst i, 1)) (hz : Int32.ofInt i = z) (hq : pc + 1 = q) : Wk κ l Z own nm code ml ret R n0 h cells slots q Ls (.int z :: St) := by
  subst hq hz; exact w.step fun hx hby hat k => XS.iconst hat hx rfl (hb hby hd) k
theorem Wk.bipush (w : Wk κ l Z own nm code ml ret R n0 h cells slots pc Ls St) {i : Int} {z : Int32} (hd : decode code pc = .ok (.bipush i, 2)) (hz : (Int8.ofInt i).toInt32 = z) (hq : pc + 2 = q) : Wk κ l Z own nm code ml ret R n0 h cells slots q Ls (.int z :: St) := by
  subst hq hz; exact w.step fun hx hby hat k => XS.bipush hat hx rfl (hb hby hd) k
theorem Wk.sipush (w : Wk κ l Z own nm code ml ret R n0 h cells slots pc Ls St) {i : Int} {z : Int32} (hd : decode code pc = .ok (.sipush i, 3)) (hz : (Int16.ofInt i).toInt32 = z) (hq : pc + 3 = q) : Wk κ l Z own nm code ml ret R n0 h cells slots q Ls (.int z :: St) := by
  subst hq hz; exact w.step fun hx hby hat k => XS.sipush hat hx rfl (hb hby hd) k
theorem Wk.lconst (w : Wk κ l Z own nm code ml ret R n0 h cells slots pc Ls St) {i : Fin 2} {z : Int64} (hd : decode code pc = .ok (.lconst i, 1)) (hz : Int64.ofNat i = z) (hq : pc + 1 = q) : Wk κ l Z own nm code ml ret R n0 h cells slots q Ls (.long z :: St) := by
  subst hq hz; exact w.step fun hx hby hat k => XT.lconst hat hx rfl (hb hby hd) k
theorem Wk.dconst0 (w : Wk κ l Z own nm code ml ret R n0 h cells slots pc Ls St) {z : UInt64} (hd : decode code pc = .ok (.dconst 0, 1)) (hz : FP.dconst0 = z) (hq : pc + 1 = q) : Wk κ l Z own nm code ml ret R n0 h cells slots q Ls (.double z :: St) := by
  subst hq; exact w.step fun hx hby hat k => XS.dconst0 hat hx rfl (hb hby hd) hz k
theorem Wk.ldcI (w : Wk κ l Z own nm code ml ret R n0 h cells slots pc Ls St) {i : Nat} {z : Int32} (wd : (Cond.constant own i z).before a0 Z = true) (hd : decode code pc = .ok (.ldc i, 2)) (hq : pc + 2 = q) : Wk κ l Z own nm code ml ret R n0 h cells slots q Ls (.int z :: St) := by
  subst hq; exact w.stepX fun hx hby hZ hown X _ k => X.ldcInt hx hown (mvT hZ wd) (g := mkF _ pc Ls St) rfl (hb hby hd) _ k
theorem Wk.ldcWI (w : Wk κ l Z own nm code ml ret R n0 h cells slots pc Ls St) {i : Nat} {z : Int32} (wd : (Cond.constant own i z).before a0 Z = true) (hd : decode code pc = .ok (.ldc_w i, 3)) (hq : pc + 3 = q) : Wk κ l Z own nm code ml ret R n0 h cells slots q Ls (.int z :: St) := by
  subst hq; exact w.stepX fun hx hby hZ hown X _ k => X.ldcWI hx hown (mvT hZ wd) (g := mkF _ pc Ls St) rfl (hb hby hd) k
theorem Wk.ldcJ (w : Wk κ l Z own nm code ml ret R n0 h cells slots pc Ls St) {i : Nat} {z : Int64} (wd : (Cond.constantLong own i z).before a0 Z = true) (hd : decode code pc = .ok (.ldc2_w i, 3)) (hq : pc + 3 = q) : Wk κ l Z own nm code ml ret R n0 h cells slots q Ls (.long z :: St) := by
  subst hq; exact w.stepX fun hx hby hZ hown X _ k => X.ldc2Long hx hown (mvT hZ wd) (g := mkF _ pc Ls St) rfl (hb hby hd) _ k
theorem Wk.ldcD (w : Wk κ l Z own nm code ml ret R n0 h cells slots pc Ls St) {i : Nat} {z : UInt64} (wd : (Cond.constantDouble own i z).before a0 Z = true) (hd : decode code pc = .ok (.ldc2_w i, 3)) (hq : pc + 3 = q) : Wk κ l Z own nm code ml ret R n0 h cells slots q Ls (.double z :: St) := by
  subst hq; exact w.stepX fun hx hby hZ hown X _ k => X.ldc2DoubleC hx hown (mvT hZ wd) (g := mkF _ pc Ls St) rfl (hb hby hd) _ k
theorem Wk.dup {v : Value} (w : Wk κ l Z own nm code ml ret R n0 h cells slots pc Ls (v :: St)) (hd : decode code pc = .ok (.dup, 1)) (hc : v.category = 1) (hq : pc + 1 = q) : Wk κ l Z own nm code ml ret R n0 h cells slots q Ls (v :: v :: St) := by
  subst hq; exact w.step fun hx hby hat k => XS.dup hat hx rfl (hb hby hd) rfl hc k
theorem Wk.dupX1 {v u : Value} (w : Wk κ l Z own nm code ml ret R n0 h cells slots pc Ls (v :: u :: St)) (hd : decode code pc = .ok (.dup_x1, 1)) (hc : v.category = 1) (hc' : u.category = 1) (hq : pc + 1 = q) : Wk κ l Z own nm code ml ret R n0 h cells slots q Ls (v :: u :: v :: St) := by
  subst hq; exact w.step fun hx hby hat k => XT.dupX1 hat hx rfl (hb hby hd) rfl hc hc' k
theorem Wk.dup2 {v u : Value} (w : Wk κ l Z own nm code ml ret R n0 h cells slots pc Ls (v :: u :: St)) (hd : decode code pc = .ok (.dup2, 1)) (hc : v.category = 1) (hc' : u.category = 1) (hq : pc + 1 = q) : Wk κ l Z own nm code ml ret R n0 h cells slots q Ls (v :: u :: v :: u :: St) := by
  subst hq; exact w.step fun hx hby hat k => XT.dup2 hat hx rfl (hb hby hd) rfl hc hc' k
theorem Wk.pop {v : Value} (w : Wk κ l Z own nm code ml ret R n0 h cells slots pc Ls (v :: St)) (hd : decode code pc = .ok (.pop, 1)) (hc : v.category = 1) (hq : pc + 1 = q) : Wk κ l Z own nm code ml ret R n0 h cells slots q Ls St := by
  subst hq; exact w.step fun hx hby hat k => XT.pop hat hx rfl (hb hby hd) rfl hc k
theorem Wk.iinc (w : Wk κ l Z own nm code ml ret R n0 h cells slots pc Ls St) {k : Nat} {i : Int} {x z : Int32} {l' : Array Slot} (hd : decode code pc = .ok (.iinc k i, 3)) (hl : Ls[k]? = some (.val (.int x))) (hz : x + Int32.ofInt i = z) (hl' : storeLocals Ls k (.int z) = some l') (hq : pc + 3 = q) : Wk κ l Z own nm code ml ret R n0 h cells slots q l' St := by
  subst hq hz; exact w.step fun hx hby hat k => XS.iinc hat hx rfl (hb hby hd) hl hl' k
theorem Wk.iadd {x y z : Int32} (w : Wk κ l Z own nm code ml ret R n0 h cells slots pc Ls (.int y :: .int x :: St)) (hd : decode code pc = .ok (.iadd, 1)) (hz : x + y = z) (hq : pc + 1 = q) : Wk κ l Z own nm code ml ret R n0 h cells slots q Ls (.int z :: St) := by
  subst hq hz; exact w.step fun hx hby hat k => XS.iadd hat hx rfl (hb hby hd) rfl k
theorem Wk.isub {x y z : Int32} (w : Wk κ l Z own nm code ml ret R n0 h cells slots pc Ls (.int y :: .int x :: St)) (hd : decode code pc = .ok (.isub, 1)) (hz : x - y = z) (hq : pc + 1 = q) : Wk κ l Z own nm code ml ret R n0 h cells slots q Ls (.int z :: St) := by
  subst hq hz; exact w.step fun hx hby hat k => XS.isub hat hx rfl (hb hby hd) rfl k
theorem Wk.imul {x y z : Int32} (w : Wk κ l Z own nm code ml ret R n0 h cells slots pc Ls (.int y :: .int x :: St)) (hd : decode code pc = .ok (.imul, 1)) (hz : x * y = z) (hq : pc + 1 = q) : Wk κ l Z own nm code ml ret R n0 h cells slots q Ls (.int z :: St) := by
  subst hq hz; exact w.step fun hx hby hat k => XS.imul hat hx rfl (hb hby hd) rfl k
theorem Wk.iand {x y z : Int32} (w : Wk κ l Z own nm code ml ret R n0 h cells slots pc Ls (.int y :: .int x :: St)) (hd : decode code pc = .ok (.iand, 1)) (hz : x &&& y = z) (hq : pc + 1 = q) : Wk κ l Z own nm code ml ret R n0 h cells slots q Ls (.int z :: St) := by
  subst hq hz; exact w.step fun hx hby hat k => XS.iand hat hx rfl (hb hby hd) rfl k
theorem Wk.ior {x y z : Int32} (w : Wk κ l Z own nm code ml ret R n0 h cells slots pc Ls (.int y :: .int x :: St)) (hd : decode code pc = .ok (.ior, 1)) (hz : x ||| y = z) (hq : pc + 1 = q) : Wk κ l Z own nm code ml ret R n0 h cells slots q Ls (.int z :: St) := by
  subst hq hz; exact w.step fun hx hby hat k => XT.ior hat hx rfl (hb hby hd) rfl k
theorem Wk.ixor {x y z : Int32} (w : Wk κ l Z own nm code ml ret R n0 h cells slots pc Ls (.int y :: .int x :: St)) (hd : decode code pc = .ok (.ixor, 1)) (hz : x ^^^ y = z) (hq : pc + 1 = q) : Wk κ l Z own nm code ml ret R n0 h cells slots q Ls (.int z :: St) := by
  subst hq hz; exact w.step fun hx hby hat k => XT.ixor hat hx rfl (hb hby hd) rfl k
theorem Wk.ishl {x y z : Int32} (w : Wk κ l Z own nm code ml ret R n0 h cells slots pc Ls (.int y :: .int x :: St)) (hd : decode code pc = .ok (.ishl, 1)) (hz : x <<< (y &&& 31) = z) (hq : pc + 1 = q) : Wk κ l Z own nm code ml ret R n0 h cells slots q Ls (.int z :: St) := by
  subst hq hz; exact w.step fun hx hby hat k => XT.ishl hat hx rfl (hb hby hd) rfl k
theorem Wk.ishr {x y z : Int32} (w : Wk κ l Z own nm code ml ret R n0 h cells slots pc Ls (.int y :: .int x :: St)) (hd : decode code pc = .ok (.ishr, 1)) (hz : x >>> (y &&& 31) = z) (hq : pc + 1 = q) : Wk κ l Z own nm code ml ret R n0 h cells slots q Ls (.int z :: St) := by
  subst hq hz; exact w.step fun hx hby hat k => XT.ishr hat hx rfl (hb hby hd) rfl k
theorem Wk.iushr {x y z : Int32} (w : Wk κ l Z own nm code ml ret R n0 h cells slots pc Ls (.int y :: .int x :: St)) (hd : decode code pc = .ok (.iushr, 1)) (hz : XT.ushr x y = z) (hq : pc + 1 = q) : Wk κ l Z own nm code ml ret R n0 h cells slots q Ls (.int z :: St) := by
  subst hq hz; exact w.step fun hx hby hat k => XT.iushr hat hx rfl (hb hby hd) rfl k
theorem Wk.idiv {x y z : Int32} (w : Wk κ l Z own nm code ml ret R n0 h cells slots pc Ls (.int y :: .int x :: St)) (hd : decode code pc = .ok (.idiv, 1)) (hy : y ≠ 0) (hz : x / y = z) (hq : pc + 1 = q) : Wk κ l Z own nm code ml ret R n0 h cells slots q Ls (.int z :: St) := by
  subst hq hz; exact w.step fun hx hby hat k => XS.idiv hat hx rfl (hb hby hd) rfl hy k
theorem Wk.ladd {x y z : Int64} (w : Wk κ l Z own nm code ml ret R n0 h cells slots pc Ls (.long y :: .long x :: St)) (hd : decode code pc = .ok (.ladd, 1)) (hz : x + y = z) (hq : pc + 1 = q) : Wk κ l Z own nm code ml ret R n0 h cells slots q Ls (.long z :: St) := by
  subst hq hz; exact w.step fun hx hby hat k => XT.ladd hat hx rfl (hb hby hd) rfl k
theorem Wk.lsub {x y z : Int64} (w : Wk κ l Z own nm code ml ret R n0 h cells slots pc Ls (.long y :: .long x :: St)) (hd : decode code pc = .ok (.lsub, 1)) (hz : x - y = z) (hq : pc + 1 = q) : Wk κ l Z own nm code ml ret R n0 h cells slots q Ls (.long z :: St) := by
  subst hq hz; exact w.step fun hx hby hat k => XT.lsub hat hx rfl (hb hby hd) rfl k
theorem Wk.lmul {x y z : Int64} (w : Wk κ l Z own nm code ml ret R n0 h cells slots pc Ls (.long y :: .long x :: St)) (hd : decode code pc = .ok (.lmul, 1)) (hz : x * y = z) (hq : pc + 1 = q) : Wk κ l Z own nm code ml ret R n0 h cells slots q Ls (.long z :: St) := by
  subst hq hz; exact w.step fun hx hby hat k => XT.lmul hat hx rfl (hb hby hd) rfl k
theorem Wk.land {x y z : Int64} (w : Wk κ l Z own nm code ml ret R n0 h cells slots pc Ls (.long y :: .long x :: St)) (hd : decode code pc = .ok (.land, 1)) (hz : x &&& y = z) (hq : pc + 1 = q) : Wk κ l Z own nm code ml ret R n0 h cells slots q Ls (.long z :: St) := by
  subst hq hz; exact w.step fun hx hby hat k => XT.land hat hx rfl (hb hby hd) rfl k
theorem Wk.lor {x y z : Int64} (w : Wk κ l Z own nm code ml ret R n0 h cells slots pc Ls (.long y :: .long x :: St)) (hd : decode code pc = .ok (.lor, 1)) (hz : x ||| y = z) (hq : pc + 1 = q) : Wk κ l Z own nm code ml ret R n0 h cells slots q Ls (.long z :: St) := by
  subst hq hz; exact w.step fun hx hby hat k => XT.lor hat hx rfl (hb hby hd) rfl k
theorem Wk.lxor {x y z : Int64} (w : Wk κ l Z own nm code ml ret R n0 h cells slots pc Ls (.long y :: .long x :: St)) (hd : decode code pc = .ok (.lxor, 1)) (hz : x ^^^ y = z) (hq : pc + 1 = q) : Wk κ l Z own nm code ml ret R n0 h cells slots q Ls (.long z :: St) := by
  subst hq hz; exact w.step fun hx hby hat k => XT.lxor hat hx rfl (hb hby hd) rfl k
theorem Wk.irem {x y z : Int32} (w : Wk κ l Z own nm code ml ret R n0 h cells slots pc Ls (.int y :: .int x :: St)) (hd : decode code pc = .ok (.irem, 1)) (hy : y ≠ 0) (hz : x % y = z) (hq : pc + 1 = q) : Wk κ l Z own nm code ml ret R n0 h cells slots q Ls (.int z :: St) := by
  subst hq hz; exact w.stepX fun hx hby _ _ X _ k => iremM X hx rfl (hb hby hd) rfl hy k
theorem Wk.lshl {x z : Int64} {y : Int32} (w : Wk κ l Z own nm code ml ret R n0 h cells slots pc Ls (.int y :: .long x :: St)) (hd : decode code pc = .ok (.lshl, 1)) (hz : x <<< (y.toInt64 &&& 63) = z) (hq : pc + 1 = q) : Wk κ l Z own nm code ml ret R n0 h cells slots q Ls (.long z :: St) := by
  subst hq hz; exact w.step fun hx hby hat k => XT.lshl hat hx rfl (hb hby hd) rfl k
theorem Wk.lshr {x z : Int64} {y : Int32} (w : Wk κ l Z own nm code ml ret R n0 h cells slots pc Ls (.int y :: .long x :: St)) (hd : decode code pc = .ok (.lshr, 1)) (hz : x >>> (y.toInt64 &&& 63) = z) (hq : pc + 1 = q) : Wk κ l Z own nm code ml ret R n0 h cells slots q Ls (.long z :: St) := by
  subst hq hz; exact w.step fun hx hby hat k => XT.lshr hat hx rfl (hb hby hd) rfl k
theorem Wk.lushr {x z : Int64} {y : Int32} (w : Wk κ l Z own nm code ml ret R n0 h cells slots pc Ls (.int y :: .long x :: St)) (hd : decode code pc = .ok (.lushr, 1)) (hz : XT.ushrL x y = z) (hq : pc + 1 = q) : Wk κ l Z own nm code ml ret R n0 h cells slots q Ls (.long z :: St) := by
  subst hq hz; exact w.step fun hx hby hat k => XT.lushr hat hx rfl (hb hby hd) rfl k
theorem Wk.lcmp {x y : Int64} {z : Int32} (w : Wk κ l Z own nm code ml ret R n0 h cells slots pc Ls (.long y :: .long x :: St)) (hd : decode code pc = .ok (.lcmp, 1)) (hz : XT.cmpL x y = z) (hq : pc + 1 = q) : Wk κ l Z own nm code ml ret R n0 h cells slots q Ls (.int z :: St) := by
  subst hq hz; exact w.step fun hx hby hat k => XT.lcmp hat hx rfl (hb hby hd) rfl k
theorem Wk.i2l {x : Int32} {z : Int64} (w : Wk κ l Z own nm code ml ret R n0 h cells slots pc Ls (.int x :: St)) (hd : decode code pc = .ok (.i2l, 1)) (hz : x.toInt64 = z) (hq : pc + 1 = q) : Wk κ l Z own nm code ml ret R n0 h cells slots q Ls (.long z :: St) := by
  subst hq hz; exact w.step fun hx hby hat k => XT.i2l hat hx rfl (hb hby hd) rfl k
theorem Wk.l2i {x : Int64} {z : Int32} (w : Wk κ l Z own nm code ml ret R n0 h cells slots pc Ls (.long x :: St)) (hd : decode code pc = .ok (.l2i, 1)) (hz : x.toInt32 = z) (hq : pc + 1 = q) : Wk κ l Z own nm code ml ret R n0 h cells slots q Ls (.int z :: St) := by
  subst hq hz; exact w.step fun hx hby hat k => XT.l2i hat hx rfl (hb hby hd) rfl k
theorem Wk.i2b {x : Int32} {z : Int32} (w : Wk κ l Z own nm code ml ret R n0 h cells slots pc Ls (.int x :: St)) (hd : decode code pc = .ok (.i2b, 1)) (hz : x.toInt8.toInt32 = z) (hq : pc + 1 = q) : Wk κ l Z own nm code ml ret R n0 h cells slots q Ls (.int z :: St) := by
  subst hq hz; exact w.step fun hx hby hat k => XT.i2b hat hx rfl (hb hby hd) rfl k
theorem Wk.i2c {x : Int32} {z : Int32} (w : Wk κ l Z own nm code ml ret R n0 h cells slots pc Ls (.int x :: St)) (hd : decode code pc = .ok (.i2c, 1)) (hz : x.toUInt32.toUInt16.toUInt32.toInt32 = z) (hq : pc + 1 = q) : Wk κ l Z own nm code ml ret R n0 h cells slots q Ls (.int z :: St) := by
  subst hq hz; exact w.step fun hx hby hat k => XT.i2c hat hx rfl (hb hby hd) rfl k
theorem Wk.i2d {x : Int32} {z : UInt64} (w : Wk κ l Z own nm code ml ret R n0 h cells slots pc Ls (.int x :: St)) (hd : decode code pc = .ok (.i2d, 1)) (hz : FP.i2d x = z) (hq : pc + 1 = q) : Wk κ l Z own nm code ml ret R n0 h cells slots q Ls (.double z :: St) := by
  subst hq; exact w.step fun hx hby hat k => XS.i2dS hat hx rfl (hb hby hd) rfl hz k
theorem Wk.dcmp {o : CmpOp} {x y : UInt64} {z : Int32} (w : Wk κ l Z own nm code ml ret R n0 h cells slots pc Ls (.double y :: .double x :: St)) (hd : decode code pc = .ok (.dcmp o, 1)) (hz : cmpValue (FP.dcmp x y) o = z) (hq : pc + 1 = q) : Wk κ l Z own nm code ml ret R n0 h cells slots q Ls (.int z :: St) := by
  subst hq; exact w.step fun hx hby hat k => XS.dcmpS hat hx rfl (hb hby hd) rfl hz k
theorem Wk.dadd {x y z : UInt64} (w : Wk κ l Z own nm code ml ret R n0 h cells slots pc Ls (.double y :: .double x :: St)) (hd : decode code pc = .ok (.dadd, 1)) (hn : Jvm.Free.Fl.NoNaN64 (FP.dadd x y)) (hz : FP.dadd x y = z) (hq : pc + 1 = q) : Wk κ l Z own nm code ml ret R n0 h cells slots q Ls (.double z :: St) := by
  subst hq; exact w.step fun hx hby hat k => XS.daddS hat hx rfl (hb hby hd) rfl hn hz k
theorem Wk.dsub {x y z : UInt64} (w : Wk κ l Z own nm code ml ret R n0 h cells slots pc Ls (.double y :: .double x :: St)) (hd : decode code pc = .ok (.dsub, 1)) (hn : Jvm.Free.Fl.NoNaN64 (FP.dsub x y)) (hz : FP.dsub x y = z) (hq : pc + 1 = q) : Wk κ l Z own nm code ml ret R n0 h cells slots q Ls (.double z :: St) := by
  subst hq; exact w.step fun hx hby hat k => XS.dsubS hat hx rfl (hb hby hd) rfl hn hz k
theorem Wk.ddiv {x y z : UInt64} (w : Wk κ l Z own nm code ml ret R n0 h cells slots pc Ls (.double y :: .double x :: St)) (hd : decode code pc = .ok (.ddiv, 1)) (hn : Jvm.Free.Fl.NoNaN64 (FP.ddiv x y)) (hz : FP.ddiv x y = z) (hq : pc + 1 = q) : Wk κ l Z own nm code ml ret R n0 h cells slots q Ls (.double z :: St) := by
  subst hq; exact w.step fun hx hby hat k => XS.ddivS hat hx rfl (hb hby hd) rfl hn hz k
theorem Wk.goto (w : Wk κ l Z own nm code ml ret R n0 h cells slots pc Ls St) {o : Int} (hd : decode code pc = .ok (.goto o, 3)) (ho : 0 ≤ (pc : Int) + o) (hq : ((pc : Int) + o).toNat = q) : Wk κ l Z own nm code ml ret R n0 h cells slots q Ls St :=
  w.step fun hx hby hat k => XS.goto hat hx rfl rfl (hb hby hd) ho hq k
theorem holdEq (x y : Int32) : if_icmp.holds .eq x y = decide (x.toInt = y.toInt) := by
  show (x == y) = _
  rw [Bool.eq_iff_iff, beq_iff_eq, decide_eq_true_iff, Int32.toInt_inj]
theorem holdNe (x y : Int32) : if_icmp.holds .ne x y = decide (x.toInt ≠ y.toInt) := by
  show (x != y) = _
  rw [Bool.eq_iff_iff, bne_iff_ne, decide_eq_true_iff, ne_eq, ne_eq, Int32.toInt_inj]
theorem holdLt (x y : Int32) : if_icmp.holds .lt x y = decide (x.toInt < y.toInt) := by simp [if_icmp.holds, Int32.lt_iff_toInt_lt, Int32.le_iff_toInt_le, ← Int32.toInt_inj]
theorem holdGe (x y : Int32) : if_icmp.holds .ge x y = decide (y.toInt ≤ x.toInt) := by simp [if_icmp.holds, Int32.lt_iff_toInt_lt, Int32.le_iff_toInt_le, ← Int32.toInt_inj]
theorem holdGt (x y : Int32) : if_icmp.holds .gt x y = decide (y.toInt < x.toInt) := by simp [if_icmp.holds, Int32.lt_iff_toInt_lt, Int32.le_iff_toInt_le, ← Int32.toInt_inj]
theorem holdLe (x y : Int32) : if_icmp.holds .le x y = decide (x.toInt ≤ y.toInt) := by simp [if_icmp.holds, Int32.lt_iff_toInt_lt, Int32.le_iff_toInt_le, ← Int32.toInt_inj]
theorem Wk.icmpEq {x y : Int32} (w : Wk κ l Z own nm code ml ret R n0 h cells slots pc Ls (.int y :: .int x :: St)) {o : Int} {q' : Nat} {xi yi : Int} (hd : decode code pc = .ok (.if_icmp .eq o, 3)) (hx0 : x.toInt = xi) (hy0 : y.toInt = yi) (ho : 0 ≤ (pc : Int) + o) (hq : ((pc : Int) + o).toNat = q) (hq' : pc + 3 = q') : (xi = yi ∧ Wk κ l Z own nm code ml ret R n0 h cells slots q Ls St) ∨ (¬ (xi = yi) ∧ Wk κ l Z own nm code ml ret R n0 h cells slots q' Ls St) := by
  subst hx0 hy0 hq'
  by_cases hc : x.toInt = y.toInt
  · exact Or.inl ⟨hc, w.step fun hx hby hat k => XS.icmpYes hat hx rfl rfl (hb hby hd) rfl (by rw [holdEq]; exact decide_eq_true hc) ho hq k⟩
  · exact Or.inr ⟨hc, w.step fun hx hby hat k => XS.icmpNo hat hx rfl (hb hby hd) rfl (by rw [holdEq]; exact decide_eq_false hc) k⟩
theorem Wk.icmpNe {x y : Int32} (w : Wk κ l Z own nm code ml ret R n0 h cells slots pc Ls (.int y :: .int x :: St)) {o : Int} {q' : Nat} {xi yi : Int} (hd : decode code pc = .ok (.if_icmp .ne o, 3)) (hx0 : x.toInt = xi) (hy0 : y.toInt = yi) (ho : 0 ≤ (pc : Int) + o) (hq : ((pc : Int) + o).toNat = q) (hq' : pc + 3 = q') : (xi ≠ yi ∧ Wk κ l Z own nm code ml ret R n0 h cells slots q Ls St) ∨ (¬ (xi ≠ yi) ∧ Wk κ l Z own nm code ml ret R n0 h cells slots q' Ls St) := by
  subst hx0 hy0 hq'
  by_cases hc : x.toInt ≠ y.toInt
  · exact Or.inl ⟨hc, w.step fun hx hby hat k => XS.icmpYes hat hx rfl rfl (hb hby hd) rfl (by rw [holdNe]; exact decide_eq_true hc) ho hq k⟩
  · exact Or.inr ⟨hc, w.step fun hx hby hat k => XS.icmpNo hat hx rfl (hb hby hd) rfl (by rw [holdNe]; exact decide_eq_false hc) k⟩
theorem Wk.icmpLt {x y : Int32} (w : Wk κ l Z own nm code ml ret R n0 h cells slots pc Ls (.int y :: .int x :: St)) {o : Int} {q' : Nat} {xi yi : Int} (hd : decode code pc = .ok (.if_icmp .lt o, 3)) (hx0 : x.toInt = xi) (hy0 : y.toInt = yi) (ho : 0 ≤ (pc : Int) + o) (hq : ((pc : Int) + o).toNat = q) (hq' : pc + 3 = q') : (xi < yi ∧ Wk κ l Z own nm code ml ret R n0 h cells slots q Ls St) ∨ (¬ (xi < yi) ∧ Wk κ l Z own nm code ml ret R n0 h cells slots q' Ls St) := by
  subst hx0 hy0 hq'
  by_cases hc : x.toInt < y.toInt
  · exact Or.inl ⟨hc, w.step fun hx hby hat k => XS.icmpYes hat hx rfl rfl (hb hby hd) rfl (by rw [holdLt]; exact decide_eq_true hc) ho hq k⟩
  · exact Or.inr ⟨hc, w.step fun hx hby hat k => XS.icmpNo hat hx rfl (hb hby hd) rfl (by rw [holdLt]; exact decide_eq_false hc) k⟩
theorem Wk.icmpGe {x y : Int32} (w : Wk κ l Z own nm code ml ret R n0 h cells slots pc Ls (.int y :: .int x :: St)) {o : Int} {q' : Nat} {xi yi : Int} (hd : decode code pc = .ok (.if_icmp .ge o, 3)) (hx0 : x.toInt = xi) (hy0 : y.toInt = yi) (ho : 0 ≤ (pc : Int) + o) (hq : ((pc : Int) + o).toNat = q) (hq' : pc + 3 = q') : (yi ≤ xi ∧ Wk κ l Z own nm code ml ret R n0 h cells slots q Ls St) ∨ (¬ (yi ≤ xi) ∧ Wk κ l Z own nm code ml ret R n0 h cells slots q' Ls St) := by
  subst hx0 hy0 hq'
  by_cases hc : y.toInt ≤ x.toInt
  · exact Or.inl ⟨hc, w.step fun hx hby hat k => XS.icmpYes hat hx rfl rfl (hb hby hd) rfl (by rw [holdGe]; exact decide_eq_true hc) ho hq k⟩
  · exact Or.inr ⟨hc, w.step fun hx hby hat k => XS.icmpNo hat hx rfl (hb hby hd) rfl (by rw [holdGe]; exact decide_eq_false hc) k⟩
theorem Wk.icmpGt {x y : Int32} (w : Wk κ l Z own nm code ml ret R n0 h cells slots pc Ls (.int y :: .int x :: St)) {o : Int} {q' : Nat} {xi yi : Int} (hd : decode code pc = .ok (.if_icmp .gt o, 3)) (hx0 : x.toInt = xi) (hy0 : y.toInt = yi) (ho : 0 ≤ (pc : Int) + o) (hq : ((pc : Int) + o).toNat = q) (hq' : pc + 3 = q') : (yi < xi ∧ Wk κ l Z own nm code ml ret R n0 h cells slots q Ls St) ∨ (¬ (yi < xi) ∧ Wk κ l Z own nm code ml ret R n0 h cells slots q' Ls St) := by
  subst hx0 hy0 hq'
  by_cases hc : y.toInt < x.toInt
  · exact Or.inl ⟨hc, w.step fun hx hby hat k => XS.icmpYes hat hx rfl rfl (hb hby hd) rfl (by rw [holdGt]; exact decide_eq_true hc) ho hq k⟩
  · exact Or.inr ⟨hc, w.step fun hx hby hat k => XS.icmpNo hat hx rfl (hb hby hd) rfl (by rw [holdGt]; exact decide_eq_false hc) k⟩
theorem Wk.icmpLe {x y : Int32} (w : Wk κ l Z own nm code ml ret R n0 h cells slots pc Ls (.int y :: .int x :: St)) {o : Int} {q' : Nat} {xi yi : Int} (hd : decode code pc = .ok (.if_icmp .le o, 3)) (hx0 : x.toInt = xi) (hy0 : y.toInt = yi) (ho : 0 ≤ (pc : Int) + o) (hq : ((pc : Int) + o).toNat = q) (hq' : pc + 3 = q') : (xi ≤ yi ∧ Wk κ l Z own nm code ml ret R n0 h cells slots q Ls St) ∨ (¬ (xi ≤ yi) ∧ Wk κ l Z own nm code ml ret R n0 h cells slots q' Ls St) := by
  subst hx0 hy0 hq'
  by_cases hc : x.toInt ≤ y.toInt
  · exact Or.inl ⟨hc, w.step fun hx hby hat k => XS.icmpYes hat hx rfl rfl (hb hby hd) rfl (by rw [holdLe]; exact decide_eq_true hc) ho hq k⟩
  · exact Or.inr ⟨hc, w.step fun hx hby hat k => XS.icmpNo hat hx rfl (hb hby hd) rfl (by rw [holdLe]; exact decide_eq_false hc) k⟩
theorem Wk.ifEq {x : Int32} (w : Wk κ l Z own nm code ml ret R n0 h cells slots pc Ls (.int x :: St)) {o : Int} {q' : Nat} {xi : Int} (hd : decode code pc = .ok (.ifCond .eq o, 3)) (hx0 : x.toInt = xi) (ho : 0 ≤ (pc : Int) + o) (hq : ((pc : Int) + o).toNat = q) (hq' : pc + 3 = q') : (xi = 0 ∧ Wk κ l Z own nm code ml ret R n0 h cells slots q Ls St) ∨ (¬ (xi = 0) ∧ Wk κ l Z own nm code ml ret R n0 h cells slots q' Ls St) := by
  subst hx0 hq'
  have h0 : (0 : Int32).toInt = 0 := rfl
  by_cases hc : x.toInt = 0
  · exact Or.inl ⟨hc, w.step fun hx hby hat k => XS.ifYes hat hx rfl rfl (hb hby hd) rfl (by rw [if0, holdEq, h0]; exact decide_eq_true hc) ho hq k⟩
  · exact Or.inr ⟨hc, w.step fun hx hby hat k => XS.ifNo hat hx rfl (hb hby hd) rfl (by rw [if0, holdEq, h0]; exact decide_eq_false hc) k⟩
theorem Wk.ifNe {x : Int32} (w : Wk κ l Z own nm code ml ret R n0 h cells slots pc Ls (.int x :: St)) {o : Int} {q' : Nat} {xi : Int} (hd : decode code pc = .ok (.ifCond .ne o, 3)) (hx0 : x.toInt = xi) (ho : 0 ≤ (pc : Int) + o) (hq : ((pc : Int) + o).toNat = q) (hq' : pc + 3 = q') : (xi ≠ 0 ∧ Wk κ l Z own nm code ml ret R n0 h cells slots q Ls St) ∨ (¬ (xi ≠ 0) ∧ Wk κ l Z own nm code ml ret R n0 h cells slots q' Ls St) := by
  subst hx0 hq'
  have h0 : (0 : Int32).toInt = 0 := rfl
  by_cases hc : x.toInt ≠ 0
  · exact Or.inl ⟨hc, w.step fun hx hby hat k => XS.ifYes hat hx rfl rfl (hb hby hd) rfl (by rw [if0, holdNe, h0]; exact decide_eq_true hc) ho hq k⟩
  · exact Or.inr ⟨hc, w.step fun hx hby hat k => XS.ifNo hat hx rfl (hb hby hd) rfl (by rw [if0, holdNe, h0]; exact decide_eq_false hc) k⟩
theorem Wk.ifLt {x : Int32} (w : Wk κ l Z own nm code ml ret R n0 h cells slots pc Ls (.int x :: St)) {o : Int} {q' : Nat} {xi : Int} (hd : decode code pc = .ok (.ifCond .lt o, 3)) (hx0 : x.toInt = xi) (ho : 0 ≤ (pc : Int) + o) (hq : ((pc : Int) + o).toNat = q) (hq' : pc + 3 = q') : (xi < 0 ∧ Wk κ l Z own nm code ml ret R n0 h cells slots q Ls St) ∨ (¬ (xi < 0) ∧ Wk κ l Z own nm code ml ret R n0 h cells slots q' Ls St) := by
  subst hx0 hq'
  have h0 : (0 : Int32).toInt = 0 := rfl
  by_cases hc : x.toInt < 0
  · exact Or.inl ⟨hc, w.step fun hx hby hat k => XS.ifYes hat hx rfl rfl (hb hby hd) rfl (by rw [if0, holdLt, h0]; exact decide_eq_true hc) ho hq k⟩
  · exact Or.inr ⟨hc, w.step fun hx hby hat k => XS.ifNo hat hx rfl (hb hby hd) rfl (by rw [if0, holdLt, h0]; exact decide_eq_false hc) k⟩
theorem Wk.ifGe {x : Int32} (w : Wk κ l Z own nm code ml ret R n0 h cells slots pc Ls (.int x :: St)) {o : Int} {q' : Nat} {xi : Int} (hd : decode code pc = .ok (.ifCond .ge o, 3)) (hx0 : x.toInt = xi) (ho : 0 ≤ (pc : Int) + o) (hq : ((pc : Int) + o).toNat = q) (hq' : pc + 3 = q') : (0 ≤ xi ∧ Wk κ l Z own nm code ml ret R n0 h cells slots q Ls St) ∨ (¬ (0 ≤ xi) ∧ Wk κ l Z own nm code ml ret R n0 h cells slots q' Ls St) := by
  subst hx0 hq'
  have h0 : (0 : Int32).toInt = 0 := rfl
  by_cases hc : 0 ≤ x.toInt
  · exact Or.inl ⟨hc, w.step fun hx hby hat k => XS.ifYes hat hx rfl rfl (hb hby hd) rfl (by rw [if0, holdGe, h0]; exact decide_eq_true hc) ho hq k⟩
  · exact Or.inr ⟨hc, w.step fun hx hby hat k => XS.ifNo hat hx rfl (hb hby hd) rfl (by rw [if0, holdGe, h0]; exact decide_eq_false hc) k⟩
theorem Wk.ifGt {x : Int32} (w : Wk κ l Z own nm code ml ret R n0 h cells slots pc Ls (.int x :: St)) {o : Int} {q' : Nat} {xi : Int} (hd : decode code pc = .ok (.ifCond .gt o, 3)) (hx0 : x.toInt = xi) (ho : 0 ≤ (pc : Int) + o) (hq : ((pc : Int) + o).toNat = q) (hq' : pc + 3 = q') : (0 < xi ∧ Wk κ l Z own nm code ml ret R n0 h cells slots q Ls St) ∨ (¬ (0 < xi) ∧ Wk κ l Z own nm code ml ret R n0 h cells slots q' Ls St) := by
  subst hx0 hq'
  have h0 : (0 : Int32).toInt = 0 := rfl
  by_cases hc : 0 < x.toInt
  · exact Or.inl ⟨hc, w.step fun hx hby hat k => XS.ifYes hat hx rfl rfl (hb hby hd) rfl (by rw [if0, holdGt, h0]; exact decide_eq_true hc) ho hq k⟩
  · exact Or.inr ⟨hc, w.step fun hx hby hat k => XS.ifNo hat hx rfl (hb hby hd) rfl (by rw [if0, holdGt, h0]; exact decide_eq_false hc) k⟩
theorem Wk.ifLe {x : Int32} (w : Wk κ l Z own nm code ml ret R n0 h cells slots pc Ls (.int x :: St)) {o : Int} {q' : Nat} {xi : Int} (hd : decode code pc = .ok (.ifCond .le o, 3)) (hx0 : x.toInt = xi) (ho : 0 ≤ (pc : Int) + o) (hq : ((pc : Int) + o).toNat = q) (hq' : pc + 3 = q') : (xi ≤ 0 ∧ Wk κ l Z own nm code ml ret R n0 h cells slots q Ls St) ∨ (¬ (xi ≤ 0) ∧ Wk κ l Z own nm code ml ret R n0 h cells slots q' Ls St) := by
  subst hx0 hq'
  have h0 : (0 : Int32).toInt = 0 := rfl
  by_cases hc : x.toInt ≤ 0
  · exact Or.inl ⟨hc, w.step fun hx hby hat k => XS.ifYes hat hx rfl rfl (hb hby hd) rfl (by rw [if0, holdLe, h0]; exact decide_eq_true hc) ho hq k⟩
  · exact Or.inr ⟨hc, w.step fun hx hby hat k => XS.ifNo hat hx rfl (hb hby hd) rfl (by rw [if0, holdLe, h0]; exact decide_eq_false hc) k⟩
theorem Wk.acmpEq {x y : Value} (w : Wk κ l Z own nm code ml ret R n0 h cells slots pc Ls (y :: x :: St)) {o : Int} {q' : Nat} (hd : decode code pc = .ok (.if_acmp .eq o, 3)) (hx' : x.isRef = true) (hy' : y.isRef = true) (ho : 0 ≤ (pc : Int) + o) (hq : ((pc : Int) + o).toNat = q) (hq' : pc + 3 = q') : (x = y ∧ Wk κ l Z own nm code ml ret R n0 h cells slots q Ls St) ∨ (¬ (x = y) ∧ Wk κ l Z own nm code ml ret R n0 h cells slots q' Ls St) := by
  subst hq'
  by_cases hc : x = y
  · exact Or.inl ⟨hc, w.step fun hx hby hat k => XT.acmpYes hat hx rfl rfl (hb hby hd) rfl hx' hy' (by simpa [XT.acmp] using hc) ho hq k⟩
  · exact Or.inr ⟨hc, w.step fun hx hby hat k => XT.acmpNo hat hx rfl (hb hby hd) rfl hx' hy' (by simpa [XT.acmp] using hc) k⟩
theorem Wk.acmpNe {x y : Value} (w : Wk κ l Z own nm code ml ret R n0 h cells slots pc Ls (y :: x :: St)) {o : Int} {q' : Nat} (hd : decode code pc = .ok (.if_acmp .ne o, 3)) (hx' : x.isRef = true) (hy' : y.isRef = true) (ho : 0 ≤ (pc : Int) + o) (hq : ((pc : Int) + o).toNat = q) (hq' : pc + 3 = q') : (x ≠ y ∧ Wk κ l Z own nm code ml ret R n0 h cells slots q Ls St) ∨ (¬ (x ≠ y) ∧ Wk κ l Z own nm code ml ret R n0 h cells slots q' Ls St) := by
  subst hq'
  by_cases hc : x ≠ y
  · exact Or.inl ⟨hc, w.step fun hx hby hat k => XT.acmpYes hat hx rfl rfl (hb hby hd) rfl hx' hy' (by simpa [XT.acmp] using hc) ho hq k⟩
  · exact Or.inr ⟨hc, w.step fun hx hby hat k => XT.acmpNo hat hx rfl (hb hby hd) rfl hx' hy' (by simpa [XT.acmp] using hc) k⟩
theorem Wk.acmpEqR {a b : Nat} (w : Wk κ l Z own nm code ml ret R n0 h cells slots pc Ls (.ref b :: .ref a :: St)) {o : Int} {q' : Nat} (hd : decode code pc = .ok (.if_acmp .eq o, 3)) (ho : 0 ≤ (pc : Int) + o) (hq : ((pc : Int) + o).toNat = q) (hq' : pc + 3 = q') : (a = b ∧ Wk κ l Z own nm code ml ret R n0 h cells slots q Ls St) ∨ (¬ (a = b) ∧ Wk κ l Z own nm code ml ret R n0 h cells slots q' Ls St) :=
  (w.acmpEq hd rfl rfl ho hq hq').imp (fun g => ⟨Value.ref.inj g.1, g.2⟩) (fun g => ⟨fun e => g.1 (congrArg Value.ref e), g.2⟩)
theorem Wk.acmpNeR {a b : Nat} (w : Wk κ l Z own nm code ml ret R n0 h cells slots pc Ls (.ref b :: .ref a :: St)) {o : Int} {q' : Nat} (hd : decode code pc = .ok (.if_acmp .ne o, 3)) (ho : 0 ≤ (pc : Int) + o) (hq : ((pc : Int) + o).toNat = q) (hq' : pc + 3 = q') : (a ≠ b ∧ Wk κ l Z own nm code ml ret R n0 h cells slots q Ls St) ∨ (¬ (a ≠ b) ∧ Wk κ l Z own nm code ml ret R n0 h cells slots q' Ls St) :=
  (w.acmpNe hd rfl rfl ho hq hq').imp (fun g => ⟨fun e => g.1 (congrArg Value.ref e), g.2⟩) (fun g => ⟨fun e => g.1 fun e' => e (Value.ref.inj e'), g.2⟩)
/-- a field of the start, by the case's own words -/
theorem fld_of_eq {args : Array Value} {s : State} {t : Term} {C n d : String} {k : Int32} {a : Nat} (hh : (Cond.eq (Term.field t C n d) (Term.int k)).value args s none s [] = some true) (ht : t.eval args s none [] s = some (.ref a)) : Fld s s.heap a C n d (.int k) := by
  obtain ⟨x, y, ex, ey, k1, k2⟩ := cmp_v (Or.inl hh)
  obtain rfl : y = .int k := (Option.some.inj (ey.symm.trans (Term.int_eval k)))
  obtain ⟨z, rfl⟩ := k2
  obtain rfl : z = k := gotT (Cond.eq_ints ex ey) hh
  exact Fld.start (by rw [← fld_at ht]; exact ex)
/-! returns -/
theorem Wk.retI {x : Int32} (w : Wk κ l Z own nm code ml (some .int) R n0 h cells slots pc Ls (.int x :: St)) {Q : Option Value → Heap → Prop} {C S : Nat} (hd : decode code pc = .ok (.ireturn, 1)) (hQ : Q (some (.int x)) h) (hc : cells ≤ C) (hs : slots ≤ S) : Dn κ n0 Q C S := by
  obtain ⟨p, e, s, m, args, below, meth, c, S0⟩ := κ
  obtain ⟨⟨hx, hby, hml, hret, hlk, hnm, hZ, hown⟩, T, locs, X, N, eT, st⟩ := w
  obtain ⟨fs, hr, hrun, hended, hW, hsame⟩ := X.leave (v := some (.int x)) (fun hh => by rw [hret] at hh; cases hh) hlk
  exact ⟨_, _, st _ (retOut X hx hret rfl (Or.inl ⟨rfl, Or.inl rfl, _, rfl⟩) (hb hby hd) hr), hrun, hended, _, _, rfl, ⟨by rw [show (T.setFrames fs).heap = h from eT]; exact hQ, N⟩, ⟨_, rfl⟩, hW, hsame.mono hc hs⟩
theorem Wk.retZ {x z : Int32} (w : Wk κ l Z own nm code ml (some .boolean) R n0 h cells slots pc Ls (.int x :: St)) {Q : Option Value → Heap → Prop} {C S : Nat} (hd : decode code pc = .ok (.ireturn, 1)) (hz : x &&& 1 = z) (hQ : Q (some (.int z)) h) (hc : cells ≤ C) (hs : slots ≤ S) : Dn κ n0 Q C S := by
  obtain ⟨p, e, s, m, args, below, meth, c, S0⟩ := κ
  obtain ⟨⟨hx, hby, hml, hret, hlk, hnm, hZ, hown⟩, T, locs, X, N, eT, st⟩ := w
  subst hz
  obtain ⟨fs, hr, hrun, hended, hW, hsame⟩ := X.leave (v := some (.int (nar .boolean x))) (fun hh => by rw [hret] at hh; cases hh) hlk
  exact ⟨_, _, st _ (retN X hx hret (by simp) (hb hby hd) hr), hrun, hended, _, _, rfl, ⟨by rw [show (T.setFrames fs).heap = h from eT]; exact hQ, N⟩, ⟨_, rfl⟩, hW, hsame.mono hc hs⟩
theorem Wk.retJ {x : Int64} (w : Wk κ l Z own nm code ml (some .long) R n0 h cells slots pc Ls (.long x :: St)) {Q : Option Value → Heap → Prop} {C S : Nat} (hd : decode code pc = .ok (.lreturn, 1)) (hQ : Q (some (.long x)) h) (hc : cells ≤ C) (hs : slots ≤ S) : Dn κ n0 Q C S := by
  obtain ⟨p, e, s, m, args, below, meth, c, S0⟩ := κ
  obtain ⟨⟨hx, hby, hml, hret, hlk, hnm, hZ, hown⟩, T, locs, X, N, eT, st⟩ := w
  obtain ⟨fs, hr, hrun, hended, hW, hsame⟩ := X.leave (v := some (.long x)) (fun hh => by rw [hret] at hh; cases hh) hlk
  exact ⟨_, _, st _ (retOut X hx hret rfl (Or.inr (Or.inl ⟨rfl, rfl, _, rfl⟩)) (hb hby hd) hr), hrun, hended, _, _, rfl, ⟨by rw [show (T.setFrames fs).heap = h from eT]; exact hQ, N⟩, ⟨_, rfl⟩, hW, hsame.mono hc hs⟩
theorem Wk.retD {x : UInt64} (w : Wk κ l Z own nm code ml (some .double) R n0 h cells slots pc Ls (.double x :: St)) {Q : Option Value → Heap → Prop} {C S : Nat} (hd : decode code pc = .ok (.dreturn, 1)) (hQ : Q (some (.double x)) h) (hc : cells ≤ C) (hs : slots ≤ S) : Dn κ n0 Q C S := by
  obtain ⟨p, e, s, m, args, below, meth, c, S0⟩ := κ
  obtain ⟨⟨hx, hby, hml, hret, hlk, hnm, hZ, hown⟩, T, locs, X, N, eT, st⟩ := w
  obtain ⟨fs, hr, hrun, hended, hW, hsame⟩ := X.leave (v := some (.double x)) (fun hh => by rw [hret] at hh; cases hh) hlk
  exact ⟨_, _, st _ (retOut X hx hret rfl (Or.inr (Or.inr (Or.inl ⟨rfl, rfl, _, rfl⟩))) (hb hby hd) hr), hrun, hended, _, _, rfl, ⟨by rw [show (T.setFrames fs).heap = h from eT]; exact hQ, N⟩, ⟨_, rfl⟩, hW, hsame.mono hc hs⟩
theorem Wk.retA {rt : FieldType} {v : Value} (w : Wk κ l Z own nm code ml (some rt) R n0 h cells slots pc Ls (v :: St)) {Q : Option Value → Heap → Prop} {C S : Nat} (hd : decode code pc = .ok (.areturn, 1)) (hrt : rt.isReference = true) (hn : narrow rt v = v) (hv : v.isRef = true) (hQ : Q (some v) h) (hc : cells ≤ C) (hs : slots ≤ S) : Dn κ n0 Q C S := by
  obtain ⟨p, e, s, m, args, below, meth, c, S0⟩ := κ
  obtain ⟨⟨hx, hby, hml, hret, hlk, hnm, hZ, hown⟩, T, locs, X, N, eT, st⟩ := w
  obtain ⟨fs, hr, hrun, hended, hW, hsame⟩ := X.leave (v := some v) (fun hh => by rw [hret] at hh; cases hh) hlk
  exact ⟨_, _, st _ (retOut X hx hret hn (Or.inr (Or.inr (Or.inr (Or.inr ⟨rfl, hrt, hv⟩)))) (hb hby hd) hr), hrun, hended, _, _, rfl, ⟨by rw [show (T.setFrames fs).heap = h from eT]; exact hQ, N⟩, ⟨_, rfl⟩, hW, hsame.mono hc hs⟩
theorem Wk.retV (w : Wk κ l Z own nm code ml none R n0 h cells slots pc Ls []) {Q : Option Value → Heap → Prop} {C S : Nat} (hd : decode code pc = .ok (.return_, 1)) (hQ : Q none h) (hc : cells ≤ C) (hs : slots ≤ S) : Dn κ n0 Q C S := by
  obtain ⟨p, e, s, m, args, below, meth, c, S0⟩ := κ
  obtain ⟨⟨hx, hby, hml, hret, hlk, hnm, hZ, hown⟩, T, locs, X, N, eT, st⟩ := w
  obtain ⟨fs, hr, hrun, hended, hW, hsame⟩ := X.leave (v := none) (fun hh => rfl) hlk
  exact ⟨_, _, st _ (X.returnOut hx hret (hb hby hd) hr), hrun, hended, _, _, rfl, ⟨by rw [show (T.setFrames fs).heap = h from eT]; exact hQ, N⟩, ⟨_, rfl⟩, hW, hsame.mono hc hs⟩
/-! the heap -/
theorem Wk.getF {a : Nat} (w : Wk κ l Z own nm code ml ret R n0 h cells slots pc Ls (.ref a :: St)) {O n d : String} {i : Nat} {v : Value} (wd : (Cond.fieldLink own i O n d).before a0 Z = true) (F : Fld Z h a O n d v) (hd : decode code pc = .ok (.getfield i, 3)) (hq : pc + 3 = q) : Wk κ l Z own nm code ml ret R n0 h cells slots q Ls (v :: St) := by
  subst hq; exact w.stepT fun hx hby _ hZ hown X eT => Jvm.RoadKit.getF X hx hZ hown (host := "") (Or.inl wd) Via.refl eT F (g := mkF _ pc Ls _) rfl rfl (hb hby hd)
theorem Wk.getS (w : Wk κ l Z own nm code ml ret R n0 h cells slots pc Ls St) {O n d : String} {i : Nat} {v : Value} (wd : (Cond.fieldLink own i O n d).before a0 Z = true) (F : Sta Z h O n d v) (hd : decode code pc = .ok (.getstatic i, 3)) (hq : pc + 3 = q) : Wk κ l Z own nm code ml ret R n0 h cells slots q Ls (v :: St) := by
  subst hq; exact w.stepT fun hx hby _ hZ hown X eT => Jvm.RoadKit.getS X hx hZ hown (host := "") wd Via.refl eT F (g := mkF _ pc Ls _) rfl (hb hby hd)
theorem Wk.putF {a : Nat} {v old : Value} (w : Wk κ l Z own nm code ml ret R n0 h cells slots pc Ls (v :: .ref a :: St)) {O n d C : String} {i kk : Nat} {ty : FieldType} (wd : (Cond.fieldLink own i O n d).before a0 Z = true) (F : Fld Z h a O n d old) (E : Exa Z h a C) (L : (Cond.lays C O n d).before a0 Z = true ∨ ((Cond.laysFinal C O n d).before a0 Z = true ∧ own = O ∧ nm = "<init>")) (wi : (Cond.instantiable C kk).before a0 Z = true)
    (hty : parseFieldDescriptor d = some ty) (hn : narrow ty v = v) (hf : fits ty v = true) (hd : decode code pc = .ok (.putfield i, 3)) (ge : n0 ≤ a) (hq : pc + 3 = q) : ∃ h', Wr h h' a (Jvm.RoadKit.slotOf Z O n d) v ∧ Wk κ l Z own nm code ml ret R n0 h' cells slots q Ls St := by
  obtain ⟨p, e, s, m, args, below, meth, c, S0⟩ := κ
  obtain ⟨hs, T, locs, X, N, eT, st⟩ := w
  subst hq
  obtain ⟨T', h', X', e', W, st'⟩ := Jvm.RoadKit.putF X hs.1 hs.2.2.2.2.2.2.1 hs.2.2.2.2.2.2.2 (host := "") (Or.inl wd) Via.refl eT F E (L.imp id fun q => ⟨q.1, q.2.1, hs.2.2.2.2.2.1.trans q.2.2⟩) wi hty hn hf (g := mkF m pc Ls _) rfl rfl (hb hs.2.1 hd)
  exact ⟨h', W, hs, T', _, X', Fr.snoc X' N ge, e', fun t k => st t (st' t k)⟩
theorem Wk.newO (w : Wk κ l Z own nm code ml ret R n0 h cells slots pc Ls St) {C : String} {i n : Nat} (w1 : (Cond.classLink own i C).before a0 Z = true) (w2 : (Cond.instantiable C n).before a0 Z = true) (w3 : (Cond.initialized C).before a0 Z = true) (hd : decode code pc = .ok (.new i, 3)) (hc : cells + 1 ≤ R.cells) (hl : slots + n ≤ R.slots) (hq : pc + 3 = q) :
    ∃ (h' : Heap) (a : Nat), a = h.size ∧ Ext h h' ∧ Exa Z h' a C ∧ (∀ {O nm d : String} {ty : FieldType}, Laid Z a0 C O nm d → parseFieldDescriptor d = some ty → Fld Z h' a O nm d (defaultValue ty)) ∧ Wk κ l Z own nm code ml ret R n0 h' (cells + 1) (slots + n) q Ls (.ref a :: St) := by
  obtain ⟨p, e, s, m, args, below, meth, c, S0⟩ := κ
  obtain ⟨hs, T, locs, X, N, eT, st⟩ := w
  subst hq
  obtain ⟨T', h', X', e', E, A, D, -, st'⟩ := Jvm.RoadKit.newO X hs.1 hs.2.2.2.2.2.2.1 hs.2.2.2.2.2.2.2 w1 w2 w3 eT (g := mkF m pc Ls St) rfl (hb hs.2.1 hd) hc hl
  exact ⟨h', _, rfl, E, A, D, hs, T', _, X', N, e', fun t k => st t (st' t k)⟩
theorem Wk.newP {z : Int32} (w : Wk κ l Z own nm code ml ret R n0 h cells slots pc Ls (.int z :: St)) {aty : ArrayType} {ty : FieldType} (w1 : (Cond.arrayClass ty).before a0 Z = true) (hty : newarray.typeOf aty = ty) (hd : decode code pc = .ok (.newarray aty, 2)) (hn : ¬ z < 0) {cap : Nat} (hcap : z.toNatClampNeg ≤ cap) (hbig : cap * 8 ≤ 536870912) (hc : cells + 1 ≤ R.cells) (hl : slots + cap ≤ R.slots) (hq : pc + 2 = q) :
    ∃ (h' : Heap) (a : Nat) (cA : ClassId), a = h.size ∧ Ext h h' ∧ Arr Z h' a (newA cA ty z) ty ∧ Wk κ l Z own nm code ml ret R n0 h' (cells + 1) (slots + cap) q Ls (.ref a :: St) := by
  obtain ⟨p, e, s, m, args, below, meth, c, S0⟩ := κ
  obtain ⟨hs, T, locs, X, N, eT, st⟩ := w
  subst hq hty
  obtain ⟨T', h', cA, X', e', E, A, st'⟩ := Jvm.RoadKit.newP X hs.1 hs.2.2.2.2.2.2.1 w1 eT (g := mkF m pc Ls _) rfl (hb hs.2.1 hd) rfl hn hcap hbig hc hl
  exact ⟨h', _, cA, rfl, E, A, hs, T', _, X', N, e', fun t k => st t (st' t k)⟩
theorem Wk.newR {z : Int32} (w : Wk κ l Z own nm code ml ret R n0 h cells slots pc Ls (.int z :: St)) {C : String} {i : Nat} (w1 : (Cond.classLink own i C).before a0 Z = true) (w2 : (Cond.arrayOver (.object C)).before a0 Z = true) (hd : decode code pc = .ok (.anewarray i, 3)) (hn : ¬ z < 0) {cap : Nat} (hcap : z.toNatClampNeg ≤ cap) (hbig : cap * 8 ≤ 536870912) (hc : cells + 1 ≤ R.cells) (hl : slots + cap ≤ R.slots) (hq : pc + 3 = q) :
    ∃ (h' : Heap) (a : Nat) (cA : ClassId), a = h.size ∧ Ext h h' ∧ Arr Z h' a (newA cA (.object C) z) (.object C) ∧ Ovr Z cA C ∧ Wk κ l Z own nm code ml ret R n0 h' (cells + 1) (slots + cap) q Ls (.ref a :: St) := by
  obtain ⟨p, e, s, m, args, below, meth, c, S0⟩ := κ
  obtain ⟨hs, T, locs, X, N, eT, st⟩ := w
  subst hq
  obtain ⟨T', h', cA, X', e', E, A, O, st'⟩ := Jvm.RoadKit.newR X hs.1 hs.2.2.2.2.2.2.1 hs.2.2.2.2.2.2.2 w1 w2 eT (g := mkF m pc Ls _) rfl (hb hs.2.1 hd) rfl hn hcap hbig hc hl
  exact ⟨h', _, cA, rfl, E, A, O, hs, T', _, X', N, e', fun t k => st t (st' t k)⟩
theorem Wk.stI {a : Nat} {j x : Int32} (w : Wk κ l Z own nm code ml ret R n0 h cells slots pc Ls (.int x :: .int j :: .ref a :: St)) {cl : Cell} (A : Arr Z h a cl .int) (hj : ¬ (j < 0 ∨ cl.slots.size ≤ j.toNatClampNeg)) (hd : decode code pc = .ok (.iastore, 1)) (ge : n0 ≤ a) (hq : pc + 1 = q) : ∃ h', Wr h h' a j.toNatClampNeg (.int x) ∧ Wk κ l Z own nm code ml ret R n0 h' cells slots q Ls St := by
  obtain ⟨p, e, s, m, args, below, meth, c, S0⟩ := κ
  obtain ⟨hs, T, locs, X, N, eT, st⟩ := w
  subst hq
  obtain ⟨T', h', X', e', W, st'⟩ := Jvm.RoadKit.stI X hs.1 hs.2.2.2.2.2.2.1 eT A hj (g := mkF m pc Ls _) rfl rfl (hb hs.2.1 hd)
  exact ⟨h', W, hs, T', _, X', Fr.snoc X' N ge, e', fun t k => st t (st' t k)⟩
theorem Wk.stB {a : Nat} {j x : Int32} (w : Wk κ l Z own nm code ml ret R n0 h cells slots pc Ls (.int x :: .int j :: .ref a :: St)) {cl : Cell} (A : Arr Z h a cl .byte) (hj : ¬ (j < 0 ∨ cl.slots.size ≤ j.toNatClampNeg)) (hd : decode code pc = .ok (.bastore, 1)) (ge : n0 ≤ a) (hq : pc + 1 = q) : ∃ h', Wr h h' a j.toNatClampNeg (.int (nar .byte x)) ∧ Wk κ l Z own nm code ml ret R n0 h' cells slots q Ls St := by
  obtain ⟨p, e, s, m, args, below, meth, c, S0⟩ := κ
  obtain ⟨hs, T, locs, X, N, eT, st⟩ := w
  subst hq
  obtain ⟨T', h', X', e', W, st'⟩ := Jvm.RoadKit.stB X hs.1 hs.2.2.2.2.2.2.1 eT A hj (g := mkF m pc Ls _) rfl rfl (hb hs.2.1 hd)
  exact ⟨h', W, hs, T', _, X', Fr.snoc X' N ge, e', fun t k => st t (st' t k)⟩
theorem Wk.stD {a : Nat} {j : Int32} {x : UInt64} (w : Wk κ l Z own nm code ml ret R n0 h cells slots pc Ls (.double x :: .int j :: .ref a :: St)) {cl : Cell} (A : Arr Z h a cl .double) (hj : ¬ (j < 0 ∨ cl.slots.size ≤ j.toNatClampNeg)) (hd : decode code pc = .ok (.dastore, 1)) (ge : n0 ≤ a) (hq : pc + 1 = q) : ∃ h', Wr h h' a j.toNatClampNeg (.double x) ∧ Wk κ l Z own nm code ml ret R n0 h' cells slots q Ls St := by
  obtain ⟨p, e, s, m, args, below, meth, c, S0⟩ := κ
  obtain ⟨hs, T, locs, X, N, eT, st⟩ := w
  subst hq
  obtain ⟨T', h', X', e', W, st'⟩ := Jvm.RoadKit.stD X hs.1 hs.2.2.2.2.2.2.1 eT A hj (g := mkF m pc Ls _) rfl rfl (hb hs.2.1 hd)
  exact ⟨h', W, hs, T', _, X', Fr.snoc X' N ge, e', fun t k => st t (st' t k)⟩
theorem Wk.stR {a : Nat} {j : Int32} {v : Value} (w : Wk κ l Z own nm code ml ret R n0 h cells slots pc Ls (v :: .int j :: .ref a :: St)) {cl : Cell} {ty : FieldType} (A : Arr Z h a cl ty) (hj : ¬ (j < 0 ∨ cl.slots.size ≤ j.toNatClampNeg)) (hty : ty.isReference = true) (F : Sto Z h a v) (hd : decode code pc = .ok (.aastore, 1)) (ge : n0 ≤ a) (hq : pc + 1 = q) : ∃ h', Wr h h' a j.toNatClampNeg v ∧ Wk κ l Z own nm code ml ret R n0 h' cells slots q Ls St := by
  obtain ⟨p, e, s, m, args, below, meth, c, S0⟩ := κ
  obtain ⟨hs, T, locs, X, N, eT, st⟩ := w
  subst hq
  obtain ⟨T', h', X', e', W, st'⟩ := Jvm.RoadKit.stR X hs.1 hs.2.2.2.2.2.2.1 eT A hj hty F (g := mkF m pc Ls _) rfl rfl (hb hs.2.1 hd)
  exact ⟨h', W, hs, T', _, X', Fr.snoc X' N ge, e', fun t k => st t (st' t k)⟩
theorem Wk.ldI {a : Nat} {j : Int32} {v : Value} (w : Wk κ l Z own nm code ml ret R n0 h cells slots pc Ls (.int j :: .ref a :: St)) {cl : Cell} (A : Arr Z h a cl .int) (hj : ¬ (j < 0 ∨ cl.slots.size ≤ j.toNatClampNeg)) (hv : cl.slots[j.toNatClampNeg]? = some v) (hd : decode code pc = .ok (.iaload, 1)) (hq : pc + 1 = q) : Wk κ l Z own nm code ml ret R n0 h cells slots q Ls (v :: St) := by
  subst hq; exact w.stepX fun hx hby hZ _ X eT k => X.iaload hx (j := j) (v := v) (by rw [eT]; exact A.1) (State.isArrayOf_alike hZ.alike A.2.1) A.2.2 hj hv (g := mkF _ pc Ls _) rfl rfl (hb hby hd) _ k
theorem Wk.ldB {a : Nat} {j : Int32} {v : Value} (w : Wk κ l Z own nm code ml ret R n0 h cells slots pc Ls (.int j :: .ref a :: St)) {cl : Cell} (A : Arr Z h a cl .byte) (hj : ¬ (j < 0 ∨ cl.slots.size ≤ j.toNatClampNeg)) (hv : cl.slots[j.toNatClampNeg]? = some v) (hd : decode code pc = .ok (.baload, 1)) (hq : pc + 1 = q) : Wk κ l Z own nm code ml ret R n0 h cells slots q Ls (v :: St) := by
  subst hq; exact w.stepX fun hx hby hZ _ X eT k => X.baloadBytes hx (j := j) (v := v) (by rw [eT]; exact A.1) (State.isArrayOf_alike hZ.alike A.2.1) A.2.2 hj hv (g := mkF _ pc Ls _) rfl rfl (hb hby hd) _ k
theorem Wk.ldD {a : Nat} {j : Int32} {v : Value} (w : Wk κ l Z own nm code ml ret R n0 h cells slots pc Ls (.int j :: .ref a :: St)) {cl : Cell} (A : Arr Z h a cl .double) (hj : ¬ (j < 0 ∨ cl.slots.size ≤ j.toNatClampNeg)) (hv : cl.slots[j.toNatClampNeg]? = some v) (hd : decode code pc = .ok (.daload, 1)) (hq : pc + 1 = q) : Wk κ l Z own nm code ml ret R n0 h cells slots q Ls (v :: St) := by
  subst hq; exact w.stepX fun hx hby hZ _ X eT k => X.daload hx (j := j) (v := v) (by rw [eT]; exact A.1) (State.isArrayOf_alike hZ.alike A.2.1) A.2.2 hj hv (g := mkF _ pc Ls _) rfl rfl (hb hby hd) _ k
theorem Wk.ldR {a : Nat} {j : Int32} {v : Value} (w : Wk κ l Z own nm code ml ret R n0 h cells slots pc Ls (.int j :: .ref a :: St)) {cl : Cell} {ty : FieldType} (A : Arr Z h a cl ty) (hty : ty.isReference = true) (hj : ¬ (j < 0 ∨ cl.slots.size ≤ j.toNatClampNeg)) (hv : cl.slots[j.toNatClampNeg]? = some v) (hd : decode code pc = .ok (.aaload, 1)) (hq : pc + 1 = q) : Wk κ l Z own nm code ml ret R n0 h cells slots q Ls (v :: St) := by
  subst hq; exact w.stepX fun hx hby hZ _ X eT k => X.aaload hx (j := j) (v := v) (by rw [eT]; exact A.1) (State.isArrayOf_alike hZ.alike A.2.1) hty A.2.2 hj hv (g := mkF _ pc Ls _) rfl rfl (hb hby hd) _ k
theorem Wk.len {a : Nat} {z : Int32} (w : Wk κ l Z own nm code ml ret R n0 h cells slots pc Ls (.ref a :: St)) {cl : Cell} {ty : FieldType} (A : Arr Z h a cl ty) (hz : cl.slots.size.toInt32 = z) (hd : decode code pc = .ok (.arraylength, 1)) (hq : pc + 1 = q) : Wk κ l Z own nm code ml ret R n0 h cells slots q Ls (.int z :: St) := by
  subst hq hz; exact w.stepX fun hx hby hZ _ X eT k => X.arraylength hx (by rw [eT]; exact A.1) (State.isArrayOf_alike hZ.alike A.2.1) (g := mkF _ pc Ls _) rfl rfl (hb hby hd) _ k
/-! calls -/
theorem Wk.initO {a : Nat} (w : Wk κ l Z own nm code ml ret R n0 h cells slots pc Ls (.ref a :: St)) {i : Nat} (w1 : (Cond.methodLink own i Lib.objectInit).before a0 Z = true) (w2 : (Cond.instanceMethod Lib.objectInit).before a0 Z = true) (w3 : (Cond.code Lib.objectInit ⟨#[0xb1]⟩ 1 none).before a0 Z = true) (hd : decode code pc = .ok (.invokespecial i, 3)) (hsz : Ls.size = ml) (hf : 1 ≤ R.frames) {W : Nat} (hW : (St.map fun v => v.category).sum ≤ W) (hl : W + 12 ≤ R.locals) (hq : pc + 3 = q) : Wk κ l Z own nm code ml ret R n0 h cells slots q Ls St := by
  subst hq; exact w.stepT fun hx hby hml hZ hown X eT => Jvm.RoadKit.initO X hx hZ hown w1 w2 w3 eT (g := mkF _ pc Ls _) rfl (hsz.trans hml.symm) rfl (hb hby hd) hf (W := W) (by show 2 * 0 + _ ≤ _; omega) hl
theorem Wk.callS (w : Wk κ l Z own nm code ml ret R n0 h cells slots pc Ls St) {y : MethodName} {i : Nat} {by0 : ByteArray} {ml' : Nat} {rt : Option FieldType} {rm : Room} {Q : Option Value → Heap → Prop} {argsL rest : List Value} (hM : Met l Z y by0 ml' rt rm n0 argsL.toArray h Q)
    (w1 : (Cond.methodLink own i y).before a0 Z = true) (w2 : (Cond.static y).before a0 Z = true) (w3 : (Cond.initialized y.cls).before a0 Z = true) (w4 : (Cond.code y by0 ml' rt).before a0 Z = true) (hy : y.cls ≠ "java/lang/invoke/MethodHandle" ∧ y.cls ≠ "java/lang/invoke/VarHandle")
    (hd : decode code pc = .ok (.invokestatic i, 3)) (hlen : ∀ sig, parseMethodDescriptor y.desc = some sig → argsL.length = sig.parameters.length) (hst : St = argsL.reverse ++ rest) (hsz : Ls.size = ml) (hf : rm.frames + 1 ≤ R.frames) {W : Nat} (hW : (rest.map fun v => v.category).sum ≤ W) (hl : W + (ml' + 11) + rm.locals ≤ R.locals) (hc : cells + rm.cells ≤ R.cells) (hs : slots + rm.slots ≤ R.slots) (hq : pc + 3 = q) :
    ∃ v h', Q v h' ∧ ∀ St', v.toList ++ rest = St' → Wk κ l Z own nm code ml ret R n0 h' (cells + rm.cells) (slots + rm.slots) q Ls St' := by
  obtain ⟨p, e, s, m, args, below, meth, c, S0⟩ := κ
  obtain ⟨g1, T, locs, X, N, eT, st⟩ := w
  subst hq hst
  have hZ := g1.2.2.2.2.2.2.1
  obtain ⟨v, _, ⟨T', L', k', n'⟩, -, X', ⟨Lc, hQ, l1, y1, z1⟩, st'⟩ := Jvm.LawKit.callS X g1.1 (y := y) g1.2.2.2.2.2.2.2 (mvT hZ w1) (mvT hZ w2) (mvT hZ w3) (mvT hZ w4) hy (backOf (W := W) (Q := fun v h L => Q v h ∧ Fr n0 L) (hM []) hZ w4 w3 hf hl) (g := mkF m pc Ls _) rfl (hsz.trans g1.2.2.1.symm) (argsL := argsL) (rest := rest) hlen rfl (by show 2 * 0 + _ ≤ _; omega) (hb g1.2.1 hd) (fun _ _ => ⟨rfl, eT, hc, hs⟩)
  dsimp only [Pt.U, Pt.locs, Pt.cells, Pt.slots] at X' l1 y1 z1 st' hQ
  subst l1 y1 z1
  exact ⟨v, _, hQ.1, fun St' hS => by subst hS; exact ⟨g1, T', _, X', N.app hQ.2, rfl, fun t k => st t (st' t k)⟩⟩
theorem Wk.callI {a : Nat} (w : Wk κ l Z own nm code ml ret R n0 h cells slots pc Ls St) {y : MethodName} {i : Nat} {by0 : ByteArray} {ml' : Nat} {rm : Room} {Q : Option Value → Heap → Prop} {argsL rest : List Value} (hM : Met l Z y by0 ml' none rm n0 (.ref a :: argsL).toArray h Q) (hy1 : y.name = "<init>")
    (w1 : (Cond.methodLink own i y).before a0 Z = true) (w2 : (Cond.instanceMethod y).before a0 Z = true) (w3 : (Cond.initialized y.cls).before a0 Z = true) (w4 : (Cond.code y by0 ml' none).before a0 Z = true) (hy : y.cls ≠ "java/lang/invoke/MethodHandle" ∧ y.cls ≠ "java/lang/invoke/VarHandle")
    (hd : decode code pc = .ok (.invokespecial i, 3)) (hlen : ∀ sig, parseMethodDescriptor y.desc = some sig → argsL.length = sig.parameters.length) (hst : St = argsL.reverse ++ .ref a :: rest) (hsz : Ls.size = ml) (hf : rm.frames + 1 ≤ R.frames) {W : Nat} (hW : (rest.map fun v => v.category).sum ≤ W) (hl : W + (ml' + 11) + rm.locals ≤ R.locals) (hc : cells + rm.cells ≤ R.cells) (hs : slots + rm.slots ≤ R.slots) (hq : pc + 3 = q) :
    ∃ v h', Q v h' ∧ ∀ St', v.toList ++ rest = St' → Wk κ l Z own nm code ml ret R n0 h' (cells + rm.cells) (slots + rm.slots) q Ls St' := by
  obtain ⟨p, e, s, m, args, below, meth, c, S0⟩ := κ
  obtain ⟨g1, T, locs, X, N, eT, st⟩ := w
  subst hq hst
  have hZ := g1.2.2.2.2.2.2.1
  obtain ⟨v, _, ⟨T', L', k', n'⟩, -, X', ⟨Lc, hQ, l1, y1, z1⟩, st'⟩ := X.specialBack g1.1 (y := y) hy1 g1.2.2.2.2.2.2.2 (mvT hZ w1) (mvT hZ w2) (mvT hZ w4) hy (backOf (W := W) (Q := fun v h L => Q v h ∧ Fr n0 L) (hM []) hZ w4 w3 hf hl) (g := mkF m pc Ls _) rfl (hsz.trans g1.2.2.1.symm) (Steps.refl _) (a := a) (argsL := argsL) (rest := rest) hlen rfl (by show 2 * 0 + _ ≤ _; omega) (hb g1.2.1 hd) (fun _ _ => ⟨rfl, eT, hc, hs⟩)
  dsimp only [Pt.U, Pt.locs, Pt.cells, Pt.slots] at X' l1 y1 z1 st' hQ
  subst l1 y1 z1
  exact ⟨v, _, hQ.1, fun St' hS => by subst hS; exact ⟨g1, T', _, X', N.app hQ.2, rfl, fun t k => st t (st'.trans k)⟩⟩
theorem Wk.callV {a : Nat} (w : Wk κ l Z own nm code ml ret R n0 h cells slots pc Ls St) {y : MethodName} {C : String} {i : Nat} {by0 : ByteArray} {ml' : Nat} {rt : Option FieldType} {rm : Room} {Q : Option Value → Heap → Prop} {argsL rest : List Value} (hM : Met l Z y by0 ml' rt rm n0 (.ref a :: argsL).toArray h Q) (E : Exa Z h a C)
    (w1 : (Cond.methodLink own i y).before a0 Z = true) (w5 : (Cond.declares y).before a0 Z = true) (w6 : (Cond.selects C y y).before a0 Z = true) (w2 : (Cond.instanceMethod y).before a0 Z = true) (w3 : (Cond.initialized y.cls).before a0 Z = true) (w4 : (Cond.code y by0 ml' rt).before a0 Z = true) (hy : y.cls ≠ "java/lang/invoke/MethodHandle" ∧ y.cls ≠ "java/lang/invoke/VarHandle")
    (hd : decode code pc = .ok (.invokevirtual i, 3)) (hlen : ∀ sig, parseMethodDescriptor y.desc = some sig → argsL.length = sig.parameters.length) (hst : St = argsL.reverse ++ .ref a :: rest) (hsz : Ls.size = ml) (hf : rm.frames + 1 ≤ R.frames) {W : Nat} (hW : (rest.map fun v => v.category).sum ≤ W) (hl : W + (ml' + 11) + rm.locals ≤ R.locals) (hc : cells + rm.cells ≤ R.cells) (hs : slots + rm.slots ≤ R.slots) (hq : pc + 3 = q) :
    ∃ v h', Q v h' ∧ ∀ St', v.toList ++ rest = St' → Wk κ l Z own nm code ml ret R n0 h' (cells + rm.cells) (slots + rm.slots) q Ls St' := by
  obtain ⟨p, e, s, m, args, below, meth, c, S0⟩ := κ
  obtain ⟨g1, T, locs, X, N, eT, st⟩ := w
  subst hq hst
  have hZ := g1.2.2.2.2.2.2.1
  obtain ⟨cq, kq, qa, qb, qc⟩ := isOf hZ eT E
  obtain ⟨v, _, ⟨T', L', k', n'⟩, -, X', ⟨Lc, hQ, l1, y1, z1⟩, st'⟩ := X.virtualBack g1.1 (y := y) (z := y) g1.2.2.2.2.2.2.2 (mvT hZ w1) (mvT hZ w5) (notFace_of_selects (args := #[]) (mvT hZ w6)) (mvT hZ w6) (mvT hZ w2) hy (backOf (W := W) (Q := fun v h L => Q v h ∧ Fr n0 L) (hM []) hZ w4 w3 hf hl) qa qc (g := mkF m pc Ls _) rfl (hsz.trans g1.2.2.1.symm) (Steps.refl _) (argsL := argsL) (rest := rest) hlen rfl (by show 2 * 0 + _ ≤ _; omega) (hb g1.2.1 hd) (fun _ _ => ⟨rfl, eT, hc, hs⟩)
  dsimp only [Pt.U, Pt.locs, Pt.cells, Pt.slots] at X' l1 y1 z1 st' hQ
  subst l1 y1 z1
  exact ⟨v, _, hQ.1, fun St' hS => by subst hS; exact ⟨g1, T', _, X', N.app hQ.2, rfl, fun t k => st t (st'.trans k)⟩⟩
end Own
end Jvm.OwnKit
@@BLOCK:HandJ.lean.txt@@
@@BLOCK:SymMore.lean.txt@@
namespace Jvm.OwnKit
open Sem ClassFile Op Lib Jvm.Stand Jvm.Free Jvm.LawKit Jvm.RoadKit
/-- an array, by the list of what it holds -/
def Arl (Z : State) (h : Heap) (t : Addr) (ty : FieldType) (vs : List Value) : Prop := ∃ cl : Cell, Arr Z h t cl ty ∧ cl.slots = vs.toArray
section Own2
variable {κ : Cx} {l : Launch} {Z : State} {own nm : String} {code : ByteArray} {ml : Nat} {ret : Option FieldType} {R : Room} {n0 : Nat} {h h' : Heap} {cells slots pc q : Nat} {Ls : Array Slot} {St : List Value} {a0 : Array Value} {t b : Nat} {ty : FieldType} {vs : List Value} {v : Value} {sl k : Nat}
theorem Arl.lt (F : Arl Z h t ty vs) : t < h.size := by obtain ⟨cl, A, -⟩ := F; exact A.lt
theorem Arl.ext (F : Arl Z h t ty vs) (E : Ext h h') : Arl Z h' t ty vs := by obtain ⟨cl, A, e⟩ := F; exact ⟨cl, A.ext E, e⟩
theorem Arl.far (F : Arl Z h t ty vs) (W : Wr h h' b sl v) (ne : t ≠ b) : Arl Z h' t ty vs := by obtain ⟨cl, A, e⟩ := F; exact ⟨cl, A.other W ne, e⟩
theorem Arl.keep {ws : List Addr} (F : Arl Z h t ty vs) (K : Keep h h' ws) (q : t ∉ ws) : Arl Z h' t ty vs := by obtain ⟨cl, A, e⟩ := F; exact ⟨cl, ⟨K.2.1 t cl A.1 q, A.2⟩, e⟩
theorem Arl.put (F : Arl Z h t ty vs) (W : Wr h h' t k v) : Arl Z h' t ty (vs.set k v) := by
  obtain ⟨cl, A, e⟩ := F
  refine ⟨_, A.same W, ?_⟩
  show cl.slots.setIfInBounds k v = _
  rw [e, List.setIfInBounds_toArray]
theorem Arl.new {cA : ClassId} {z : Int32} (A : Arr Z h t (newA cA ty z) ty) (e : Array.replicate z.toNatClampNeg (defaultValue ty) = vs.toArray) : Arl Z h t ty vs := ⟨_, A, e⟩
theorem in_list {j : Int32} {cl : Cell} (e : cl.slots = vs.toArray) (hj : j.toInt = k) (hk : k < vs.length) : ¬ (j < 0 ∨ cl.slots.size ≤ j.toNatClampNeg) := by
  have e1 : (0 : Int32).toInt = 0 := rfl
  have e2 : j.toNatClampNeg = j.toInt.toNat := rfl
  have e3 : cl.slots.size = vs.length := by rw [e]; simp
  rw [Int32.lt_iff_toInt_lt]
  omega
theorem at_list {j : Int32} {cl : Cell} (e : cl.slots = vs.toArray) (hj : j.toInt = k) (hv : vs[k]? = some v) : cl.slots[j.toNatClampNeg]? = some v := by
  have e2 : j.toNatClampNeg = k := by show j.toInt.toNat = k; omega
  rw [e, e2]; simpa using hv
theorem ltl {i n : Nat} (e : Nat.ble (i + 1) n = true) : i < n := Nat.le_of_ble_eq_true e
theorem lt_list (hv : vs[k]? = some v) : k < vs.length := (List.getElem?_eq_some_iff.mp hv).1
theorem Wk.ldIl {j : Int32} (w : Wk κ l Z own nm code ml ret R n0 h cells slots pc Ls (.int j :: .ref t :: St)) (F : Arl Z h t .int vs) (k : Nat) (hj : j.toInt = k) (hv : vs[k]? = some v) (hd : decode code pc = .ok (.iaload, 1)) (hq : pc + 1 = q) : Wk κ l Z own nm code ml ret R n0 h cells slots q Ls (v :: St) := by
  obtain ⟨cl, A, e⟩ := F
  exact w.ldI A (in_list e hj (lt_list hv)) (at_list e hj hv) hd hq
theorem Wk.ldDl {j : Int32} (w : Wk κ l Z own nm code ml ret R n0 h cells slots pc Ls (.int j :: .ref t :: St)) (F : Arl Z h t .double vs) (k : Nat) (hj : j.toInt = k) (hv : vs[k]? = some v) (hd : decode code pc = .ok (.daload, 1)) (hq : pc + 1 = q) : Wk κ l Z own nm code ml ret R n0 h cells slots q Ls (v :: St) := by
  obtain ⟨cl, A, e⟩ := F
  exact w.ldD A (in_list e hj (lt_list hv)) (at_list e hj hv) hd hq
theorem Wk.stIl {j x : Int32} (w : Wk κ l Z own nm code ml ret R n0 h cells slots pc Ls (.int x :: .int j :: .ref t :: St)) (F : Arl Z h t .int vs) (k : Nat) (hj : j.toInt = k) (hk : k < vs.length) (ge : n0 ≤ t) (hd : decode code pc = .ok (.iastore, 1)) (hq : pc + 1 = q) : ∃ h', Wr h h' t k (.int x) ∧ Wk κ l Z own nm code ml ret R n0 h' cells slots q Ls St := by
  obtain ⟨cl, A, e⟩ := F
  have e2 : j.toNatClampNeg = k := by show j.toInt.toNat = k; omega
  have r := w.stI A (in_list e hj hk) hd ge hq
  rw [e2] at r
  exact r
theorem Wk.stDl {j : Int32} {x : UInt64} (w : Wk κ l Z own nm code ml ret R n0 h cells slots pc Ls (.double x :: .int j :: .ref t :: St)) (F : Arl Z h t .double vs) (k : Nat) (hj : j.toInt = k) (hk : k < vs.length) (ge : n0 ≤ t) (hd : decode code pc = .ok (.dastore, 1)) (hq : pc + 1 = q) : ∃ h', Wr h h' t k (.double x) ∧ Wk κ l Z own nm code ml ret R n0 h' cells slots q Ls St := by
  obtain ⟨cl, A, e⟩ := F
  have e2 : j.toNatClampNeg = k := by show j.toInt.toNat = k; omega
  have r := w.stD A (in_list e hj hk) hd ge hq
  rw [e2] at r
  exact r
theorem Wk.lenl {z : Int32} (w : Wk κ l Z own nm code ml ret R n0 h cells slots pc Ls (.ref t :: St)) (F : Arl Z h t ty vs) (hz : vs.length.toInt32 = z) (hd : decode code pc = .ok (.arraylength, 1)) (hq : pc + 1 = q) : Wk κ l Z own nm code ml ret R n0 h cells slots q Ls (.int z :: St) := by
  obtain ⟨cl, A, e⟩ := F
  exact w.len A (by rw [e]; simpa using hz) hd hq
theorem Wk.callP {a : Nat} (w : Wk κ l Z own nm code ml ret R n0 h cells slots pc Ls St) {y : MethodName} {i n : Nat} {by0 : ByteArray} {ml' : Nat} {rt : Option FieldType} {rm : Room} {Q : Option Value → Heap → Prop} {argsL rest : List Value} {C : String} (hM : Met l Z y by0 ml' rt rm n0 (.ref a :: argsL).toArray h Q) (E : Exa Z h a C)
    (w1 : (Cond.methodLink own i y).before a0 Z = true) (w5 : (Cond.privateMethod y).before a0 Z = true) (w6 : (Cond.instantiable y.cls n).before a0 Z = true) (w2 : (Cond.instanceMethod y).before a0 Z = true) (w3 : (Cond.initialized y.cls).before a0 Z = true) (w4 : (Cond.code y by0 ml' rt).before a0 Z = true) (hy : y.cls ≠ "java/lang/invoke/MethodHandle" ∧ y.cls ≠ "java/lang/invoke/VarHandle")
    (hd : decode code pc = .ok (.invokevirtual i, 3)) (hlen : ∀ sig, parseMethodDescriptor y.desc = some sig → argsL.length = sig.parameters.length) (hst : St = argsL.reverse ++ .ref a :: rest) (hsz : Ls.size = ml) (hf : rm.frames + 1 ≤ R.frames) {W : Nat} (hW : (rest.map fun v => v.category).sum ≤ W) (hl : W + (ml' + 11) + rm.locals ≤ R.locals) (hc : cells + rm.cells ≤ R.cells) (hs : slots + rm.slots ≤ R.slots) (hq : pc + 3 = q) :
    ∃ v h', Q v h' ∧ ∀ St', v.toList ++ rest = St' → Wk κ l Z own nm code ml ret R n0 h' (cells + rm.cells) (slots + rm.slots) q Ls St' := by
  obtain ⟨p, e, s, m, args, below, meth, c, S0⟩ := κ
  obtain ⟨g1, T, locs, X, N, eT, st⟩ := w
  subst hq hst
  have hZ := g1.2.2.2.2.2.2.1
  have hsel := Jvm.Kit.selects_private hy w6 w5 w2
  obtain ⟨cq, q1, q2⟩ := E.cell
  obtain ⟨v, _, ⟨T', L', k', n'⟩, -, X', ⟨Lc, hQ, l1, y1, z1⟩, st'⟩ := X.privateBack g1.1 (y := y) g1.2.2.2.2.2.2.2 (mvT hZ w1) (mvT hZ w2) (mvT hZ hsel) (Cond.privateMethod_at (mvP hZ w5 (args := #[]))) (mvT hZ w4) hy (backOf (W := W) (Q := fun v h L => Q v h ∧ Fr n0 L) (hM []) hZ w4 w3 hf hl) (g := mkF m pc Ls _) rfl (hsz.trans g1.2.2.1.symm) (Steps.refl _) (a := a) (by rw [eT]; exact q1) q2 (argsL := argsL) (rest := rest) hlen rfl (by show 2 * 0 + _ ≤ _; omega) (hb g1.2.1 hd) (fun _ _ => ⟨rfl, eT, hc, hs⟩)
  dsimp only [Pt.U, Pt.locs, Pt.cells, Pt.slots] at X' l1 y1 z1 st' hQ
  subst l1 y1 z1
  exact ⟨v, _, hQ.1, fun St' hS => by subst hS; exact ⟨g1, T', _, X', N.app hQ.2, rfl, fun t k => st t (st'.trans k)⟩⟩
end Own2
end Jvm.OwnKit
namespace Jvm.Pilot.@@N@@
open Jvm Jvm.ClassFile Sem Op Lib Jvm.Free Jvm.Stand Jvm.LawKit Jvm.RoadKit Jvm.OwnKit Bundle Jvm.Pilot.@@N@@.Jvm.D
theorem pn_0 : plainName "com/example/lucky_fork/luckyfork/model/GroupSums" = true := by first | (simp [plainName, overriddenIn]; done) | decide +kernel
theorem pn_1 : plainName "java/lang/Integer" = true := by first | (simp [plainName, overriddenIn]; done) | decide +kernel
theorem pn_2 : plainName "java/util/Arrays" = true := by first | (simp [plainName, overriddenIn]; done) | decide +kernel
theorem pn_3 : plainName "com/example/lucky_fork/luckyfork/model/GroupSumsFindByIndexPinLaw" = true := by first | (simp [plainName, overriddenIn]; done) | decide +kernel
theorem pd_0 : parseMethodDescriptor "(I)I" = some ⟨[.int], (some .int)⟩ := by decide +kernel
theorem pd_1 : parseMethodDescriptor "([DD)V" = some ⟨[(.array .double), .double], none⟩ := by decide +kernel
theorem pd_2 : parseMethodDescriptor "([II)V" = some ⟨[(.array .int), .int], none⟩ := by decide +kernel
theorem pd_3 : parseMethodDescriptor "(I)V" = some ⟨[.int], none⟩ := by decide +kernel
theorem pd_4 : parseMethodDescriptor "()V" = some ⟨[], none⟩ := by decide +kernel
theorem pd_5 : parseMethodDescriptor "(IDI)V" = some ⟨[.int, .double, .int], none⟩ := by decide +kernel
theorem pd_6 : parseMethodDescriptor "()I" = some ⟨[], (some .int)⟩ := by decide +kernel
theorem own_mask (x : Int32) : 0 ≤ (x &&& (2147483647 : Int32)).toInt := by
  have h := c_mask x 2147483647 31 (by decide) (by decide)
  have : (0 : Int) < ((2 ^ 31 : Nat) : Int) := by decide
  omega
theorem own_cntb {x r : Int32} (e : x &&& (1048575 : Int32) = r) : 0 ≤ r.toInt ∧ r.toInt < 1048576 := by
  have h := c_mask x 1048575 20 (by decide) (by decide)
  rw [e] at h
  have : ((2 ^ 20 : Nat) : Int) = 1048576 := by decide
  omega
theorem own_groups {x z g : Int32} (e : x &&& (3 : Int32) = z) (e2 : z + (1 : Int32) = g) : g = 1 ∨ g = 2 ∨ g = 3 ∨ g = 4 := by
  have h := c_mask x 3 2 (by decide) (by decide)
  rw [e] at h
  have h1 := c_iadd z 1
  have h2 := rng32 (z + 1)
  rw [e2] at h1 h2
  have e1 : (1 : Int32).toInt = 1 := rfl
  have e2 : (2 : Int32).toInt = 2 := rfl
  have e3 : (3 : Int32).toInt = 3 := rfl
  have e4 : (4 : Int32).toInt = 4 := rfl
  have : ((2 ^ 2 : Nat) : Int) = 4 := by decide
  simp only [← Int32.toInt_inj]
  omega
theorem own_nz {x : Int32} (h : x.toInt ≠ 0) : x ≠ 0 := fun e => h (by rw [e]; rfl)
theorem own_rem {z s i : Int32} (e : z % s = i) (h : 0 ≤ z.toInt) (hs : 0 < s.toInt) : 0 ≤ i.toInt ∧ i.toInt < s.toInt := by
  have h1 : i.toInt = z.toInt.tmod s.toInt := by rw [← e, Int32.toInt_mod]
  have h2 := Int.tmod_nonneg s.toInt h
  have h3 := Int.tmod_lt_of_pos z.toInt hs
  omega
theorem dlm2_0 : decode method_2_code 0 = .ok (.iload_n 0, 1) := by decide +kernel
theorem dlm2_1 : decode method_2_code 1 = .ok (.bipush 20, 2) := by decide +kernel
theorem dlm2_3 : decode method_2_code 3 = .ok (.iushr, 1) := by decide +kernel
theorem dlm2_4 : decode method_2_code 4 = .ok (.iconst 3, 1) := by decide +kernel
theorem dlm2_5 : decode method_2_code 5 = .ok (.iand, 1) := by decide +kernel
theorem dlm2_6 : decode method_2_code 6 = .ok (.ifCond .ne 7, 3) := by decide +kernel
theorem dlm2_9 : decode method_2_code 9 = .ok (.iconst 0, 1) := by decide +kernel
theorem dlm2_10 : decode method_2_code 10 = .ok (.goto 7, 3) := by decide +kernel
theorem dlm2_13 : decode method_2_code 13 = .ok (.iload_n 0, 1) := by decide +kernel
theorem dlm2_14 : decode method_2_code 14 = .ok (.ldc 7, 2) := by decide +kernel
theorem dlm2_16 : decode method_2_code 16 = .ok (.iand, 1) := by decide +kernel
theorem dlm2_17 : decode method_2_code 17 = .ok (.ireturn, 1) := by decide +kernel
theorem dp120m1_0 : decode prog_120_method_1_code 0 = .ok (.aload_n 0, 1) := by decide +kernel
theorem dp120m1_1 : decode prog_120_method_1_code 1 = .ok (.invokespecial 1, 3) := by decide +kernel
theorem dp120m1_4 : decode prog_120_method_1_code 4 = .ok (.aload_n 0, 1) := by decide +kernel
theorem dp120m1_5 : decode prog_120_method_1_code 5 = .ok (.iconst 1, 1) := by decide +kernel
theorem dp120m1_6 : decode prog_120_method_1_code 6 = .ok (.putfield 7, 3) := by decide +kernel
theorem dp120m1_9 : decode prog_120_method_1_code 9 = .ok (.aload_n 0, 1) := by decide +kernel
theorem dp120m1_10 : decode prog_120_method_1_code 10 = .ok (.iconst 2, 1) := by decide +kernel
theorem dp120m1_11 : decode prog_120_method_1_code 11 = .ok (.newarray .double, 2) := by decide +kernel
theorem dp120m1_13 : decode prog_120_method_1_code 13 = .ok (.putfield 13, 3) := by decide +kernel
theorem dp120m1_16 : decode prog_120_method_1_code 16 = .ok (.aload_n 0, 1) := by decide +kernel
theorem dp120m1_17 : decode prog_120_method_1_code 17 = .ok (.iconst 2, 1) := by decide +kernel
theorem dp120m1_18 : decode prog_120_method_1_code 18 = .ok (.newarray .int, 2) := by decide +kernel
theorem dp120m1_20 : decode prog_120_method_1_code 20 = .ok (.putfield 17, 3) := by decide +kernel
theorem dp120m1_23 : decode prog_120_method_1_code 23 = .ok (.aload_n 0, 1) := by decide +kernel
theorem dp120m1_24 : decode prog_120_method_1_code 24 = .ok (.bipush 8, 2) := by decide +kernel
theorem dp120m1_26 : decode prog_120_method_1_code 26 = .ok (.newarray .int, 2) := by decide +kernel
theorem dp120m1_28 : decode prog_120_method_1_code 28 = .ok (.putfield 21, 3) := by decide +kernel
theorem dp120m1_31 : decode prog_120_method_1_code 31 = .ok (.return_, 1) := by decide +kernel
theorem dp120m3_0 : decode prog_120_method_3_code 0 = .ok (.iload_n 1, 1) := by decide +kernel
theorem dp120m3_1 : decode prog_120_method_3_code 1 = .ok (.iconst 1, 1) := by decide +kernel
theorem dp120m3_2 : decode prog_120_method_3_code 2 = .ok (.if_icmp .gt 7, 3) := by decide +kernel
theorem dp120m3_5 : decode prog_120_method_3_code 5 = .ok (.iconst 1, 1) := by decide +kernel
theorem dp120m3_6 : decode prog_120_method_3_code 6 = .ok (.goto 11, 3) := by decide +kernel
theorem dp120m3_9 : decode prog_120_method_3_code 9 = .ok (.iload_n 1, 1) := by decide +kernel
theorem dp120m3_10 : decode prog_120_method_3_code 10 = .ok (.iconst 1, 1) := by decide +kernel
theorem dp120m3_11 : decode prog_120_method_3_code 11 = .ok (.isub, 1) := by decide +kernel
theorem dp120m3_12 : decode prog_120_method_3_code 12 = .ok (.invokestatic 35, 3) := by decide +kernel
theorem dp120m3_15 : decode prog_120_method_3_code 15 = .ok (.iconst 1, 1) := by decide +kernel
theorem dp120m3_16 : decode prog_120_method_3_code 16 = .ok (.ishl, 1) := by decide +kernel
theorem dp120m3_17 : decode prog_120_method_3_code 17 = .ok (.istore_n 2, 1) := by decide +kernel
theorem dp120m3_18 : decode prog_120_method_3_code 18 = .ok (.iload_n 2, 1) := by decide +kernel
theorem dp120m3_19 : decode prog_120_method_3_code 19 = .ok (.aload_n 0, 1) := by decide +kernel
theorem dp120m3_20 : decode prog_120_method_3_code 20 = .ok (.getfield 7, 3) := by decide +kernel
theorem dp120m3_23 : decode prog_120_method_3_code 23 = .ok (.if_icmp .eq 46, 3) := by decide +kernel
theorem dp120m3_26 : decode prog_120_method_3_code 26 = .ok (.aload_n 0, 1) := by decide +kernel
theorem dp120m3_27 : decode prog_120_method_3_code 27 = .ok (.iload_n 2, 1) := by decide +kernel
theorem dp120m3_28 : decode prog_120_method_3_code 28 = .ok (.putfield 7, 3) := by decide +kernel
theorem dp120m3_31 : decode prog_120_method_3_code 31 = .ok (.aload_n 0, 1) := by decide +kernel
theorem dp120m3_32 : decode prog_120_method_3_code 32 = .ok (.aload_n 0, 1) := by decide +kernel
theorem dp120m3_33 : decode prog_120_method_3_code 33 = .ok (.getfield 7, 3) := by decide +kernel
theorem dp120m3_36 : decode prog_120_method_3_code 36 = .ok (.invokestatic 41, 3) := by decide +kernel
theorem dp120m3_39 : decode prog_120_method_3_code 39 = .ok (.putfield 25, 3) := by decide +kernel
theorem dp120m3_42 : decode prog_120_method_3_code 42 = .ok (.aload_n 0, 1) := by decide +kernel
theorem dp120m3_43 : decode prog_120_method_3_code 43 = .ok (.iconst 2, 1) := by decide +kernel
theorem dp120m3_44 : decode prog_120_method_3_code 44 = .ok (.aload_n 0, 1) := by decide +kernel
theorem dp120m3_45 : decode prog_120_method_3_code 45 = .ok (.getfield 7, 3) := by decide +kernel
theorem dp120m3_48 : decode prog_120_method_3_code 48 = .ok (.imul, 1) := by decide +kernel
theorem dp120m3_49 : decode prog_120_method_3_code 49 = .ok (.newarray .double, 2) := by decide +kernel
theorem dp120m3_51 : decode prog_120_method_3_code 51 = .ok (.putfield 13, 3) := by decide +kernel
theorem dp120m3_54 : decode prog_120_method_3_code 54 = .ok (.aload_n 0, 1) := by decide +kernel
theorem dp120m3_55 : decode prog_120_method_3_code 55 = .ok (.iconst 2, 1) := by decide +kernel
theorem dp120m3_56 : decode prog_120_method_3_code 56 = .ok (.aload_n 0, 1) := by decide +kernel
theorem dp120m3_57 : decode prog_120_method_3_code 57 = .ok (.getfield 7, 3) := by decide +kernel
theorem dp120m3_60 : decode prog_120_method_3_code 60 = .ok (.imul, 1) := by decide +kernel
theorem dp120m3_61 : decode prog_120_method_3_code 61 = .ok (.newarray .int, 2) := by decide +kernel
theorem dp120m3_63 : decode prog_120_method_3_code 63 = .ok (.putfield 17, 3) := by decide +kernel
theorem dp120m3_66 : decode prog_120_method_3_code 66 = .ok (.goto 19, 3) := by decide +kernel
theorem dp120m3_69 : decode prog_120_method_3_code 69 = .ok (.aload_n 0, 1) := by decide +kernel
theorem dp120m3_70 : decode prog_120_method_3_code 70 = .ok (.getfield 13, 3) := by decide +kernel
theorem dp120m3_73 : decode prog_120_method_3_code 73 = .ok (.dconst 0, 1) := by decide +kernel
theorem dp120m3_74 : decode prog_120_method_3_code 74 = .ok (.invokestatic 44, 3) := by decide +kernel
theorem dp120m3_77 : decode prog_120_method_3_code 77 = .ok (.aload_n 0, 1) := by decide +kernel
theorem dp120m3_78 : decode prog_120_method_3_code 78 = .ok (.getfield 17, 3) := by decide +kernel
theorem dp120m3_81 : decode prog_120_method_3_code 81 = .ok (.iconst 0, 1) := by decide +kernel
theorem dp120m3_82 : decode prog_120_method_3_code 82 = .ok (.invokestatic 50, 3) := by decide +kernel
theorem dp120m3_85 : decode prog_120_method_3_code 85 = .ok (.aload_n 0, 1) := by decide +kernel
theorem dp120m3_86 : decode prog_120_method_3_code 86 = .ok (.iconst 0, 1) := by decide +kernel
theorem dp120m3_87 : decode prog_120_method_3_code 87 = .ok (.putfield 53, 3) := by decide +kernel
theorem dp120m3_90 : decode prog_120_method_3_code 90 = .ok (.aload_n 0, 1) := by decide +kernel
theorem dp120m3_91 : decode prog_120_method_3_code 91 = .ok (.iconst 0, 1) := by decide +kernel
theorem dp120m3_92 : decode prog_120_method_3_code 92 = .ok (.putfield 56, 3) := by decide +kernel
theorem dp120m3_95 : decode prog_120_method_3_code 95 = .ok (.return_, 1) := by decide +kernel
theorem dj65m113_0 : decode jdk_65_method_113_code 0 = .ok (.iconst 0, 1) := by decide +kernel
theorem dj65m113_1 : decode jdk_65_method_113_code 1 = .ok (.istore_n 3, 1) := by decide +kernel
theorem dj65m113_2 : decode jdk_65_method_113_code 2 = .ok (.aload_n 0, 1) := by decide +kernel
theorem dj65m113_3 : decode jdk_65_method_113_code 3 = .ok (.arraylength, 1) := by decide +kernel
theorem dj65m113_4 : decode jdk_65_method_113_code 4 = .ok (.istore 4, 2) := by decide +kernel
theorem dj65m113_6 : decode jdk_65_method_113_code 6 = .ok (.iload_n 3, 1) := by decide +kernel
theorem dj65m113_7 : decode jdk_65_method_113_code 7 = .ok (.iload 4, 2) := by decide +kernel
theorem dj65m113_9 : decode jdk_65_method_113_code 9 = .ok (.if_icmp .ge 13, 3) := by decide +kernel
theorem dj65m113_12 : decode jdk_65_method_113_code 12 = .ok (.aload_n 0, 1) := by decide +kernel
theorem dj65m113_13 : decode jdk_65_method_113_code 13 = .ok (.iload_n 3, 1) := by decide +kernel
theorem dj65m113_14 : decode jdk_65_method_113_code 14 = .ok (.dload_n 1, 1) := by decide +kernel
theorem dj65m113_15 : decode jdk_65_method_113_code 15 = .ok (.dastore, 1) := by decide +kernel
theorem dj65m113_16 : decode jdk_65_method_113_code 16 = .ok (.iinc 3 1, 3) := by decide +kernel
theorem dj65m113_19 : decode jdk_65_method_113_code 19 = .ok (.goto (-13), 3) := by decide +kernel
theorem dj65m113_22 : decode jdk_65_method_113_code 22 = .ok (.return_, 1) := by decide +kernel
theorem dj65m103_0 : decode jdk_65_method_103_code 0 = .ok (.iconst 0, 1) := by decide +kernel
theorem dj65m103_1 : decode jdk_65_method_103_code 1 = .ok (.istore_n 2, 1) := by decide +kernel
theorem dj65m103_2 : decode jdk_65_method_103_code 2 = .ok (.aload_n 0, 1) := by decide +kernel
theorem dj65m103_3 : decode jdk_65_method_103_code 3 = .ok (.arraylength, 1) := by decide +kernel
theorem dj65m103_4 : decode jdk_65_method_103_code 4 = .ok (.istore_n 3, 1) := by decide +kernel
theorem dj65m103_5 : decode jdk_65_method_103_code 5 = .ok (.iload_n 2, 1) := by decide +kernel
theorem dj65m103_6 : decode jdk_65_method_103_code 6 = .ok (.iload_n 3, 1) := by decide +kernel
theorem dj65m103_7 : decode jdk_65_method_103_code 7 = .ok (.if_icmp .ge 13, 3) := by decide +kernel
theorem dj65m103_10 : decode jdk_65_method_103_code 10 = .ok (.aload_n 0, 1) := by decide +kernel
theorem dj65m103_11 : decode jdk_65_method_103_code 11 = .ok (.iload_n 2, 1) := by decide +kernel
theorem dj65m103_12 : decode jdk_65_method_103_code 12 = .ok (.iload_n 1, 1) := by decide +kernel
theorem dj65m103_13 : decode jdk_65_method_103_code 13 = .ok (.iastore, 1) := by decide +kernel
theorem dj65m103_14 : decode jdk_65_method_103_code 14 = .ok (.iinc 2 1, 3) := by decide +kernel
theorem dj65m103_17 : decode jdk_65_method_103_code 17 = .ok (.goto (-12), 3) := by decide +kernel
theorem dj65m103_20 : decode jdk_65_method_103_code 20 = .ok (.return_, 1) := by decide +kernel
theorem dp120m4_0 : decode prog_120_method_4_code 0 = .ok (.aload_n 0, 1) := by decide +kernel
theorem dp120m4_1 : decode prog_120_method_4_code 1 = .ok (.getfield 7, 3) := by decide +kernel
theorem dp120m4_4 : decode prog_120_method_4_code 4 = .ok (.iload_n 1, 1) := by decide +kernel
theorem dp120m4_5 : decode prog_120_method_4_code 5 = .ok (.iadd, 1) := by decide +kernel
theorem dp120m4_6 : decode prog_120_method_4_code 6 = .ok (.istore 5, 2) := by decide +kernel
theorem dp120m4_8 : decode prog_120_method_4_code 8 = .ok (.aload_n 0, 1) := by decide +kernel
theorem dp120m4_9 : decode prog_120_method_4_code 9 = .ok (.getfield 13, 3) := by decide +kernel
theorem dp120m4_12 : decode prog_120_method_4_code 12 = .ok (.iload 5, 2) := by decide +kernel
theorem dp120m4_14 : decode prog_120_method_4_code 14 = .ok (.dload_n 2, 1) := by decide +kernel
theorem dp120m4_15 : decode prog_120_method_4_code 15 = .ok (.dastore, 1) := by decide +kernel
theorem dp120m4_16 : decode prog_120_method_4_code 16 = .ok (.aload_n 0, 1) := by decide +kernel
theorem dp120m4_17 : decode prog_120_method_4_code 17 = .ok (.getfield 17, 3) := by decide +kernel
theorem dp120m4_20 : decode prog_120_method_4_code 20 = .ok (.iload 5, 2) := by decide +kernel
theorem dp120m4_22 : decode prog_120_method_4_code 22 = .ok (.iload 4, 2) := by decide +kernel
theorem dp120m4_24 : decode prog_120_method_4_code 24 = .ok (.iastore, 1) := by decide +kernel
theorem dp120m4_25 : decode prog_120_method_4_code 25 = .ok (.aload_n 0, 1) := by decide +kernel
theorem dp120m4_26 : decode prog_120_method_4_code 26 = .ok (.getfield 56, 3) := by decide +kernel
theorem dp120m4_29 : decode prog_120_method_4_code 29 = .ok (.ifCond .eq 4, 3) := by decide +kernel
theorem dp120m4_32 : decode prog_120_method_4_code 32 = .ok (.return_, 1) := by decide +kernel
theorem dp120m4_33 : decode prog_120_method_4_code 33 = .ok (.aload_n 0, 1) := by decide +kernel
theorem dp120m4_34 : decode prog_120_method_4_code 34 = .ok (.getfield 53, 3) := by decide +kernel
theorem dp120m4_37 : decode prog_120_method_4_code 37 = .ok (.aload_n 0, 1) := by decide +kernel
theorem dp120m4_38 : decode prog_120_method_4_code 38 = .ok (.getfield 25, 3) := by decide +kernel
theorem dp120m4_41 : decode prog_120_method_4_code 41 = .ok (.imul, 1) := by decide +kernel
theorem dp120m4_42 : decode prog_120_method_4_code 42 = .ok (.aload_n 0, 1) := by decide +kernel
theorem dp120m4_43 : decode prog_120_method_4_code 43 = .ok (.getfield 7, 3) := by decide +kernel
theorem dp120m4_46 : decode prog_120_method_4_code 46 = .ok (.if_icmp .lt 9, 3) := by decide +kernel
theorem dp120m4_49 : decode prog_120_method_4_code 49 = .ok (.aload_n 0, 1) := by decide +kernel
theorem dp120m4_50 : decode prog_120_method_4_code 50 = .ok (.iconst 1, 1) := by decide +kernel
theorem dp120m4_51 : decode prog_120_method_4_code 51 = .ok (.putfield 56, 3) := by decide +kernel
theorem dp120m4_54 : decode prog_120_method_4_code 54 = .ok (.return_, 1) := by decide +kernel
theorem dp120m4_55 : decode prog_120_method_4_code 55 = .ok (.aload_n 0, 1) := by decide +kernel
theorem dp120m4_56 : decode prog_120_method_4_code 56 = .ok (.getfield 53, 3) := by decide +kernel
theorem dp120m4_59 : decode prog_120_method_4_code 59 = .ok (.aload_n 0, 1) := by decide +kernel
theorem dp120m4_60 : decode prog_120_method_4_code 60 = .ok (.getfield 21, 3) := by decide +kernel
theorem dp120m4_63 : decode prog_120_method_4_code 63 = .ok (.arraylength, 1) := by decide +kernel
theorem dp120m4_64 : decode prog_120_method_4_code 64 = .ok (.if_icmp .ne 20, 3) := by decide +kernel
theorem dp120m4_67 : decode prog_120_method_4_code 67 = .ok (.aload_n 0, 1) := by decide +kernel
theorem dp120m4_68 : decode prog_120_method_4_code 68 = .ok (.aload_n 0, 1) := by decide +kernel
theorem dp120m4_69 : decode prog_120_method_4_code 69 = .ok (.getfield 21, 3) := by decide +kernel
theorem dp120m4_72 : decode prog_120_method_4_code 72 = .ok (.iconst 2, 1) := by decide +kernel
theorem dp120m4_73 : decode prog_120_method_4_code 73 = .ok (.aload_n 0, 1) := by decide +kernel
theorem dp120m4_74 : decode prog_120_method_4_code 74 = .ok (.getfield 53, 3) := by decide +kernel
theorem dp120m4_77 : decode prog_120_method_4_code 77 = .ok (.imul, 1) := by decide +kernel
theorem dp120m4_78 : decode prog_120_method_4_code 78 = .ok (.invokestatic 60, 3) := by decide +kernel
theorem dp120m4_81 : decode prog_120_method_4_code 81 = .ok (.putfield 21, 3) := by decide +kernel
theorem dp120m4_84 : decode prog_120_method_4_code 84 = .ok (.aload_n 0, 1) := by decide +kernel
theorem dp120m4_85 : decode prog_120_method_4_code 85 = .ok (.getfield 21, 3) := by decide +kernel
theorem dp120m4_88 : decode prog_120_method_4_code 88 = .ok (.aload_n 0, 1) := by decide +kernel
theorem dp120m4_89 : decode prog_120_method_4_code 89 = .ok (.dup, 1) := by decide +kernel
theorem dp120m4_90 : decode prog_120_method_4_code 90 = .ok (.getfield 53, 3) := by decide +kernel
theorem dp120m4_93 : decode prog_120_method_4_code 93 = .ok (.dup_x1, 1) := by decide +kernel
theorem dp120m4_94 : decode prog_120_method_4_code 94 = .ok (.iconst 1, 1) := by decide +kernel
theorem dp120m4_95 : decode prog_120_method_4_code 95 = .ok (.iadd, 1) := by decide +kernel
theorem dp120m4_96 : decode prog_120_method_4_code 96 = .ok (.putfield 53, 3) := by decide +kernel
theorem dp120m4_99 : decode prog_120_method_4_code 99 = .ok (.iload 5, 2) := by decide +kernel
theorem dp120m4_101 : decode prog_120_method_4_code 101 = .ok (.iastore, 1) := by decide +kernel
theorem dp120m4_102 : decode prog_120_method_4_code 102 = .ok (.return_, 1) := by decide +kernel
theorem dp120m11_0 : decode prog_120_method_11_code 0 = .ok (.aload_n 0, 1) := by decide +kernel
theorem dp120m11_1 : decode prog_120_method_11_code 1 = .ok (.getfield 56, 3) := by decide +kernel
theorem dp120m11_4 : decode prog_120_method_11_code 4 = .ok (.ifCond .eq 37, 3) := by decide +kernel
theorem dp120m11_7 : decode prog_120_method_11_code 7 = .ok (.aload_n 0, 1) := by decide +kernel
theorem dp120m11_8 : decode prog_120_method_11_code 8 = .ok (.getfield 7, 3) := by decide +kernel
theorem dp120m11_11 : decode prog_120_method_11_code 11 = .ok (.iconst 1, 1) := by decide +kernel
theorem dp120m11_12 : decode prog_120_method_11_code 12 = .ok (.isub, 1) := by decide +kernel
theorem dp120m11_13 : decode prog_120_method_11_code 13 = .ok (.istore_n 1, 1) := by decide +kernel
theorem dp120m11_14 : decode prog_120_method_11_code 14 = .ok (.iload_n 1, 1) := by decide +kernel
theorem dp120m11_15 : decode prog_120_method_11_code 15 = .ok (.iconst 1, 1) := by decide +kernel
theorem dp120m11_16 : decode prog_120_method_11_code 16 = .ok (.if_icmp .lt 14, 3) := by decide +kernel
theorem dp120m11_19 : decode prog_120_method_11_code 19 = .ok (.aload_n 0, 1) := by decide +kernel
theorem dp120m11_20 : decode prog_120_method_11_code 20 = .ok (.iload_n 1, 1) := by decide +kernel
theorem dp120m11_21 : decode prog_120_method_11_code 21 = .ok (.invokevirtual 71, 3) := by decide +kernel
theorem dp120m11_24 : decode prog_120_method_11_code 24 = .ok (.iinc 1 (-1), 3) := by decide +kernel
theorem dp120m11_27 : decode prog_120_method_11_code 27 = .ok (.goto (-13), 3) := by decide +kernel
theorem dp120m11_30 : decode prog_120_method_11_code 30 = .ok (.aload_n 0, 1) := by decide +kernel
theorem dp120m11_31 : decode prog_120_method_11_code 31 = .ok (.iconst 0, 1) := by decide +kernel
theorem dp120m11_32 : decode prog_120_method_11_code 32 = .ok (.putfield 56, 3) := by decide +kernel
theorem dp120m11_35 : decode prog_120_method_11_code 35 = .ok (.aload_n 0, 1) := by decide +kernel
theorem dp120m11_36 : decode prog_120_method_11_code 36 = .ok (.iconst 0, 1) := by decide +kernel
theorem dp120m11_37 : decode prog_120_method_11_code 37 = .ok (.putfield 53, 3) := by decide +kernel
theorem dp120m11_40 : decode prog_120_method_11_code 40 = .ok (.return_, 1) := by decide +kernel
theorem dp120m11_41 : decode prog_120_method_11_code 41 = .ok (.iconst 0, 1) := by decide +kernel
theorem dp120m11_42 : decode prog_120_method_11_code 42 = .ok (.istore_n 1, 1) := by decide +kernel
theorem dp120m11_43 : decode prog_120_method_11_code 43 = .ok (.iload_n 1, 1) := by decide +kernel
theorem dp120m11_44 : decode prog_120_method_11_code 44 = .ok (.aload_n 0, 1) := by decide +kernel
theorem dp120m11_45 : decode prog_120_method_11_code 45 = .ok (.getfield 53, 3) := by decide +kernel
theorem dp120m11_48 : decode prog_120_method_11_code 48 = .ok (.if_icmp .ge 35, 3) := by decide +kernel
theorem dp120m11_51 : decode prog_120_method_11_code 51 = .ok (.aload_n 0, 1) := by decide +kernel
theorem dp120m11_52 : decode prog_120_method_11_code 52 = .ok (.getfield 21, 3) := by decide +kernel
theorem dp120m11_55 : decode prog_120_method_11_code 55 = .ok (.iload_n 1, 1) := by decide +kernel
theorem dp120m11_56 : decode prog_120_method_11_code 56 = .ok (.iaload, 1) := by decide +kernel
theorem dp120m11_57 : decode prog_120_method_11_code 57 = .ok (.iconst 1, 1) := by decide +kernel
theorem dp120m11_58 : decode prog_120_method_11_code 58 = .ok (.ishr, 1) := by decide +kernel
theorem dp120m11_59 : decode prog_120_method_11_code 59 = .ok (.istore_n 2, 1) := by decide +kernel
theorem dp120m11_60 : decode prog_120_method_11_code 60 = .ok (.iload_n 2, 1) := by decide +kernel
theorem dp120m11_61 : decode prog_120_method_11_code 61 = .ok (.iconst 1, 1) := by decide +kernel
theorem dp120m11_62 : decode prog_120_method_11_code 62 = .ok (.if_icmp .lt 15, 3) := by decide +kernel
theorem dp120m11_65 : decode prog_120_method_11_code 65 = .ok (.aload_n 0, 1) := by decide +kernel
theorem dp120m11_66 : decode prog_120_method_11_code 66 = .ok (.iload_n 2, 1) := by decide +kernel
theorem dp120m11_67 : decode prog_120_method_11_code 67 = .ok (.invokevirtual 71, 3) := by decide +kernel
theorem dp120m11_70 : decode prog_120_method_11_code 70 = .ok (.iload_n 2, 1) := by decide +kernel
theorem dp120m11_71 : decode prog_120_method_11_code 71 = .ok (.iconst 1, 1) := by decide +kernel
theorem dp120m11_72 : decode prog_120_method_11_code 72 = .ok (.ishr, 1) := by decide +kernel
theorem dp120m11_73 : decode prog_120_method_11_code 73 = .ok (.istore_n 2, 1) := by decide +kernel
theorem dp120m11_74 : decode prog_120_method_11_code 74 = .ok (.goto (-14), 3) := by decide +kernel
theorem dp120m11_77 : decode prog_120_method_11_code 77 = .ok (.iinc 1 1, 3) := by decide +kernel
theorem dp120m11_80 : decode prog_120_method_11_code 80 = .ok (.goto (-37), 3) := by decide +kernel
theorem dp120m11_83 : decode prog_120_method_11_code 83 = .ok (.aload_n 0, 1) := by decide +kernel
theorem dp120m11_84 : decode prog_120_method_11_code 84 = .ok (.iconst 0, 1) := by decide +kernel
theorem dp120m11_85 : decode prog_120_method_11_code 85 = .ok (.putfield 53, 3) := by decide +kernel
theorem dp120m11_88 : decode prog_120_method_11_code 88 = .ok (.return_, 1) := by decide +kernel
theorem dp120m6_0 : decode prog_120_method_6_code 0 = .ok (.aload_n 0, 1) := by decide +kernel
theorem dp120m6_1 : decode prog_120_method_6_code 1 = .ok (.getfield 17, 3) := by decide +kernel
theorem dp120m6_4 : decode prog_120_method_6_code 4 = .ok (.iconst 1, 1) := by decide +kernel
theorem dp120m6_5 : decode prog_120_method_6_code 5 = .ok (.iaload, 1) := by decide +kernel
theorem dp120m6_6 : decode prog_120_method_6_code 6 = .ok (.ireturn, 1) := by decide +kernel
theorem dj33m45_0 : decode jdk_33_method_45_code 0 = .ok (.iload_n 0, 1) := by decide +kernel
theorem dj33m45_1 : decode jdk_33_method_45_code 1 = .ok (.ldc 127, 2) := by decide +kernel
theorem dj33m45_3 : decode jdk_33_method_45_code 3 = .ok (.iload_n 0, 1) := by decide +kernel
theorem dj33m45_4 : decode jdk_33_method_45_code 4 = .ok (.invokestatic 51, 3) := by decide +kernel
theorem dj33m45_7 : decode jdk_33_method_45_code 7 = .ok (.iushr, 1) := by decide +kernel
theorem dj33m45_8 : decode jdk_33_method_45_code 8 = .ok (.iand, 1) := by decide +kernel
theorem dj33m45_9 : decode jdk_33_method_45_code 9 = .ok (.ireturn, 1) := by decide +kernel
theorem dj33m47_0 : decode jdk_33_method_47_code 0 = .ok (.iload_n 0, 1) := by decide +kernel
theorem dj33m47_1 : decode jdk_33_method_47_code 1 = .ok (.ifCond .gt 14, 3) := by decide +kernel
theorem dj33m47_4 : decode jdk_33_method_47_code 4 = .ok (.iload_n 0, 1) := by decide +kernel
theorem dj33m47_5 : decode jdk_33_method_47_code 5 = .ok (.ifCond .ne 8, 3) := by decide +kernel
theorem dj33m47_8 : decode jdk_33_method_47_code 8 = .ok (.bipush 32, 2) := by decide +kernel
theorem dj33m47_10 : decode jdk_33_method_47_code 10 = .ok (.goto 4, 3) := by decide +kernel
theorem dj33m47_13 : decode jdk_33_method_47_code 13 = .ok (.iconst 0, 1) := by decide +kernel
theorem dj33m47_14 : decode jdk_33_method_47_code 14 = .ok (.ireturn, 1) := by decide +kernel
theorem dj33m47_15 : decode jdk_33_method_47_code 15 = .ok (.bipush 31, 2) := by decide +kernel
theorem dj33m47_17 : decode jdk_33_method_47_code 17 = .ok (.istore_n 1, 1) := by decide +kernel
theorem dj33m47_18 : decode jdk_33_method_47_code 18 = .ok (.iload_n 0, 1) := by decide +kernel
theorem dj33m47_19 : decode jdk_33_method_47_code 19 = .ok (.ldc_w 264, 3) := by decide +kernel
theorem dj33m47_22 : decode jdk_33_method_47_code 22 = .ok (.if_icmp .lt 11, 3) := by decide +kernel
theorem dj33m47_25 : decode jdk_33_method_47_code 25 = .ok (.iinc 1 (-16), 3) := by decide +kernel
theorem dj33m47_28 : decode jdk_33_method_47_code 28 = .ok (.iload_n 0, 1) := by decide +kernel
theorem dj33m47_29 : decode jdk_33_method_47_code 29 = .ok (.bipush 16, 2) := by decide +kernel
theorem dj33m47_31 : decode jdk_33_method_47_code 31 = .ok (.iushr, 1) := by decide +kernel
theorem dj33m47_32 : decode jdk_33_method_47_code 32 = .ok (.istore_n 0, 1) := by decide +kernel
theorem dj33m47_33 : decode jdk_33_method_47_code 33 = .ok (.iload_n 0, 1) := by decide +kernel
theorem dj33m47_34 : decode jdk_33_method_47_code 34 = .ok (.sipush 256, 3) := by decide +kernel
theorem dj33m47_37 : decode jdk_33_method_47_code 37 = .ok (.if_icmp .lt 11, 3) := by decide +kernel
theorem dj33m47_40 : decode jdk_33_method_47_code 40 = .ok (.iinc 1 (-8), 3) := by decide +kernel
theorem dj33m47_43 : decode jdk_33_method_47_code 43 = .ok (.iload_n 0, 1) := by decide +kernel
theorem dj33m47_44 : decode jdk_33_method_47_code 44 = .ok (.bipush 8, 2) := by decide +kernel
theorem dj33m47_46 : decode jdk_33_method_47_code 46 = .ok (.iushr, 1) := by decide +kernel
theorem dj33m47_47 : decode jdk_33_method_47_code 47 = .ok (.istore_n 0, 1) := by decide +kernel
theorem dj33m47_48 : decode jdk_33_method_47_code 48 = .ok (.iload_n 0, 1) := by decide +kernel
theorem dj33m47_49 : decode jdk_33_method_47_code 49 = .ok (.bipush 16, 2) := by decide +kernel
theorem dj33m47_51 : decode jdk_33_method_47_code 51 = .ok (.if_icmp .lt 10, 3) := by decide +kernel
theorem dj33m47_54 : decode jdk_33_method_47_code 54 = .ok (.iinc 1 (-4), 3) := by decide +kernel
theorem dj33m47_57 : decode jdk_33_method_47_code 57 = .ok (.iload_n 0, 1) := by decide +kernel
theorem dj33m47_58 : decode jdk_33_method_47_code 58 = .ok (.iconst 4, 1) := by decide +kernel
theorem dj33m47_59 : decode jdk_33_method_47_code 59 = .ok (.iushr, 1) := by decide +kernel
theorem dj33m47_60 : decode jdk_33_method_47_code 60 = .ok (.istore_n 0, 1) := by decide +kernel
theorem dj33m47_61 : decode jdk_33_method_47_code 61 = .ok (.iload_n 0, 1) := by decide +kernel
theorem dj33m47_62 : decode jdk_33_method_47_code 62 = .ok (.iconst 4, 1) := by decide +kernel
theorem dj33m47_63 : decode jdk_33_method_47_code 63 = .ok (.if_icmp .lt 10, 3) := by decide +kernel
theorem dj33m47_66 : decode jdk_33_method_47_code 66 = .ok (.iinc 1 (-2), 3) := by decide +kernel
theorem dj33m47_69 : decode jdk_33_method_47_code 69 = .ok (.iload_n 0, 1) := by decide +kernel
theorem dj33m47_70 : decode jdk_33_method_47_code 70 = .ok (.iconst 2, 1) := by decide +kernel
theorem dj33m47_71 : decode jdk_33_method_47_code 71 = .ok (.iushr, 1) := by decide +kernel
theorem dj33m47_72 : decode jdk_33_method_47_code 72 = .ok (.istore_n 0, 1) := by decide +kernel
theorem dj33m47_73 : decode jdk_33_method_47_code 73 = .ok (.iload_n 1, 1) := by decide +kernel
theorem dj33m47_74 : decode jdk_33_method_47_code 74 = .ok (.iload_n 0, 1) := by decide +kernel
theorem dj33m47_75 : decode jdk_33_method_47_code 75 = .ok (.iconst 1, 1) := by decide +kernel
theorem dj33m47_76 : decode jdk_33_method_47_code 76 = .ok (.iushr, 1) := by decide +kernel
theorem dj33m47_77 : decode jdk_33_method_47_code 77 = .ok (.isub, 1) := by decide +kernel
theorem dj33m47_78 : decode jdk_33_method_47_code 78 = .ok (.ireturn, 1) := by decide +kernel
theorem dj33m48_0 : decode jdk_33_method_48_code 0 = .ok (.iload_n 0, 1) := by decide +kernel
theorem dj33m48_1 : decode jdk_33_method_48_code 1 = .ok (.iconst (-1), 1) := by decide +kernel
theorem dj33m48_2 : decode jdk_33_method_48_code 2 = .ok (.ixor, 1) := by decide +kernel
theorem dj33m48_3 : decode jdk_33_method_48_code 3 = .ok (.iload_n 0, 1) := by decide +kernel
theorem dj33m48_4 : decode jdk_33_method_48_code 4 = .ok (.iconst 1, 1) := by decide +kernel
theorem dj33m48_5 : decode jdk_33_method_48_code 5 = .ok (.isub, 1) := by decide +kernel
theorem dj33m48_6 : decode jdk_33_method_48_code 6 = .ok (.iand, 1) := by decide +kernel
theorem dj33m48_7 : decode jdk_33_method_48_code 7 = .ok (.istore_n 0, 1) := by decide +kernel
theorem dj33m48_8 : decode jdk_33_method_48_code 8 = .ok (.iload_n 0, 1) := by decide +kernel
theorem dj33m48_9 : decode jdk_33_method_48_code 9 = .ok (.ifCond .gt 8, 3) := by decide +kernel
theorem dj33m48_12 : decode jdk_33_method_48_code 12 = .ok (.iload_n 0, 1) := by decide +kernel
theorem dj33m48_13 : decode jdk_33_method_48_code 13 = .ok (.bipush 32, 2) := by decide +kernel
theorem dj33m48_15 : decode jdk_33_method_48_code 15 = .ok (.iand, 1) := by decide +kernel
theorem dj33m48_16 : decode jdk_33_method_48_code 16 = .ok (.ireturn, 1) := by decide +kernel
theorem dj33m48_17 : decode jdk_33_method_48_code 17 = .ok (.iconst 1, 1) := by decide +kernel
theorem dj33m48_18 : decode jdk_33_method_48_code 18 = .ok (.istore_n 1, 1) := by decide +kernel
theorem dj33m48_19 : decode jdk_33_method_48_code 19 = .ok (.iload_n 0, 1) := by decide +kernel
theorem dj33m48_20 : decode jdk_33_method_48_code 20 = .ok (.ldc_w 264, 3) := by decide +kernel
theorem dj33m48_23 : decode jdk_33_method_48_code 23 = .ok (.if_icmp .le 11, 3) := by decide +kernel
theorem dj33m48_26 : decode jdk_33_method_48_code 26 = .ok (.iinc 1 16, 3) := by decide +kernel
theorem dj33m48_29 : decode jdk_33_method_48_code 29 = .ok (.iload_n 0, 1) := by decide +kernel
theorem dj33m48_30 : decode jdk_33_method_48_code 30 = .ok (.bipush 16, 2) := by decide +kernel
theorem dj33m48_32 : decode jdk_33_method_48_code 32 = .ok (.iushr, 1) := by decide +kernel
theorem dj33m48_33 : decode jdk_33_method_48_code 33 = .ok (.istore_n 0, 1) := by decide +kernel
theorem dj33m48_34 : decode jdk_33_method_48_code 34 = .ok (.iload_n 0, 1) := by decide +kernel
theorem dj33m48_35 : decode jdk_33_method_48_code 35 = .ok (.sipush 256, 3) := by decide +kernel
theorem dj33m48_38 : decode jdk_33_method_48_code 38 = .ok (.if_icmp .le 11, 3) := by decide +kernel
theorem dj33m48_41 : decode jdk_33_method_48_code 41 = .ok (.iinc 1 8, 3) := by decide +kernel
theorem dj33m48_44 : decode jdk_33_method_48_code 44 = .ok (.iload_n 0, 1) := by decide +kernel
theorem dj33m48_45 : decode jdk_33_method_48_code 45 = .ok (.bipush 8, 2) := by decide +kernel
theorem dj33m48_47 : decode jdk_33_method_48_code 47 = .ok (.iushr, 1) := by decide +kernel
theorem dj33m48_48 : decode jdk_33_method_48_code 48 = .ok (.istore_n 0, 1) := by decide +kernel
theorem dj33m48_49 : decode jdk_33_method_48_code 49 = .ok (.iload_n 0, 1) := by decide +kernel
theorem dj33m48_50 : decode jdk_33_method_48_code 50 = .ok (.bipush 16, 2) := by decide +kernel
theorem dj33m48_52 : decode jdk_33_method_48_code 52 = .ok (.if_icmp .le 10, 3) := by decide +kernel
theorem dj33m48_55 : decode jdk_33_method_48_code 55 = .ok (.iinc 1 4, 3) := by decide +kernel
theorem dj33m48_58 : decode jdk_33_method_48_code 58 = .ok (.iload_n 0, 1) := by decide +kernel
theorem dj33m48_59 : decode jdk_33_method_48_code 59 = .ok (.iconst 4, 1) := by decide +kernel
theorem dj33m48_60 : decode jdk_33_method_48_code 60 = .ok (.iushr, 1) := by decide +kernel
theorem dj33m48_61 : decode jdk_33_method_48_code 61 = .ok (.istore_n 0, 1) := by decide +kernel
theorem dj33m48_62 : decode jdk_33_method_48_code 62 = .ok (.iload_n 0, 1) := by decide +kernel
theorem dj33m48_63 : decode jdk_33_method_48_code 63 = .ok (.iconst 4, 1) := by decide +kernel
theorem dj33m48_64 : decode jdk_33_method_48_code 64 = .ok (.if_icmp .le 10, 3) := by decide +kernel
theorem dj33m48_67 : decode jdk_33_method_48_code 67 = .ok (.iinc 1 2, 3) := by decide +kernel
theorem dj33m48_70 : decode jdk_33_method_48_code 70 = .ok (.iload_n 0, 1) := by decide +kernel
theorem dj33m48_71 : decode jdk_33_method_48_code 71 = .ok (.iconst 2, 1) := by decide +kernel
theorem dj33m48_72 : decode jdk_33_method_48_code 72 = .ok (.iushr, 1) := by decide +kernel
theorem dj33m48_73 : decode jdk_33_method_48_code 73 = .ok (.istore_n 0, 1) := by decide +kernel
theorem dj33m48_74 : decode jdk_33_method_48_code 74 = .ok (.iload_n 1, 1) := by decide +kernel
theorem dj33m48_75 : decode jdk_33_method_48_code 75 = .ok (.iload_n 0, 1) := by decide +kernel
theorem dj33m48_76 : decode jdk_33_method_48_code 76 = .ok (.iconst 1, 1) := by decide +kernel
theorem dj33m48_77 : decode jdk_33_method_48_code 77 = .ok (.iushr, 1) := by decide +kernel
theorem dj33m48_78 : decode jdk_33_method_48_code 78 = .ok (.iadd, 1) := by decide +kernel
theorem dj33m48_79 : decode jdk_33_method_48_code 79 = .ok (.ireturn, 1) := by decide +kernel
theorem dp120m12_0 : decode prog_120_method_12_code 0 = .ok (.aload_n 0, 1) := by decide +kernel
theorem dp120m12_1 : decode prog_120_method_12_code 1 = .ok (.getfield 13, 3) := by decide +kernel
theorem dp120m12_4 : decode prog_120_method_12_code 4 = .ok (.iload_n 1, 1) := by decide +kernel
theorem dp120m12_5 : decode prog_120_method_12_code 5 = .ok (.aload_n 0, 1) := by decide +kernel
theorem dp120m12_6 : decode prog_120_method_12_code 6 = .ok (.getfield 13, 3) := by decide +kernel
theorem dp120m12_9 : decode prog_120_method_12_code 9 = .ok (.iconst 2, 1) := by decide +kernel
theorem dp120m12_10 : decode prog_120_method_12_code 10 = .ok (.iload_n 1, 1) := by decide +kernel
theorem dp120m12_11 : decode prog_120_method_12_code 11 = .ok (.imul, 1) := by decide +kernel
theorem dp120m12_12 : decode prog_120_method_12_code 12 = .ok (.daload, 1) := by decide +kernel
theorem dp120m12_13 : decode prog_120_method_12_code 13 = .ok (.aload_n 0, 1) := by decide +kernel
theorem dp120m12_14 : decode prog_120_method_12_code 14 = .ok (.getfield 13, 3) := by decide +kernel
theorem dp120m12_17 : decode prog_120_method_12_code 17 = .ok (.iconst 2, 1) := by decide +kernel
theorem dp120m12_18 : decode prog_120_method_12_code 18 = .ok (.iload_n 1, 1) := by decide +kernel
theorem dp120m12_19 : decode prog_120_method_12_code 19 = .ok (.imul, 1) := by decide +kernel
theorem dp120m12_20 : decode prog_120_method_12_code 20 = .ok (.iconst 1, 1) := by decide +kernel
theorem dp120m12_21 : decode prog_120_method_12_code 21 = .ok (.iadd, 1) := by decide +kernel
theorem dp120m12_22 : decode prog_120_method_12_code 22 = .ok (.daload, 1) := by decide +kernel
theorem dp120m12_23 : decode prog_120_method_12_code 23 = .ok (.dadd, 1) := by decide +kernel
theorem dp120m12_24 : decode prog_120_method_12_code 24 = .ok (.dastore, 1) := by decide +kernel
theorem dp120m12_25 : decode prog_120_method_12_code 25 = .ok (.aload_n 0, 1) := by decide +kernel
theorem dp120m12_26 : decode prog_120_method_12_code 26 = .ok (.getfield 17, 3) := by decide +kernel
theorem dp120m12_29 : decode prog_120_method_12_code 29 = .ok (.iload_n 1, 1) := by decide +kernel
theorem dp120m12_30 : decode prog_120_method_12_code 30 = .ok (.aload_n 0, 1) := by decide +kernel
theorem dp120m12_31 : decode prog_120_method_12_code 31 = .ok (.getfield 17, 3) := by decide +kernel
theorem dp120m12_34 : decode prog_120_method_12_code 34 = .ok (.iconst 2, 1) := by decide +kernel
theorem dp120m12_35 : decode prog_120_method_12_code 35 = .ok (.iload_n 1, 1) := by decide +kernel
theorem dp120m12_36 : decode prog_120_method_12_code 36 = .ok (.imul, 1) := by decide +kernel
theorem dp120m12_37 : decode prog_120_method_12_code 37 = .ok (.iaload, 1) := by decide +kernel
theorem dp120m12_38 : decode prog_120_method_12_code 38 = .ok (.aload_n 0, 1) := by decide +kernel
theorem dp120m12_39 : decode prog_120_method_12_code 39 = .ok (.getfield 17, 3) := by decide +kernel
theorem dp120m12_42 : decode prog_120_method_12_code 42 = .ok (.iconst 2, 1) := by decide +kernel
theorem dp120m12_43 : decode prog_120_method_12_code 43 = .ok (.iload_n 1, 1) := by decide +kernel
theorem dp120m12_44 : decode prog_120_method_12_code 44 = .ok (.imul, 1) := by decide +kernel
theorem dp120m12_45 : decode prog_120_method_12_code 45 = .ok (.iconst 1, 1) := by decide +kernel
theorem dp120m12_46 : decode prog_120_method_12_code 46 = .ok (.iadd, 1) := by decide +kernel
theorem dp120m12_47 : decode prog_120_method_12_code 47 = .ok (.iaload, 1) := by decide +kernel
theorem dp120m12_48 : decode prog_120_method_12_code 48 = .ok (.iadd, 1) := by decide +kernel
theorem dp120m12_49 : decode prog_120_method_12_code 49 = .ok (.iastore, 1) := by decide +kernel
theorem dp120m12_50 : decode prog_120_method_12_code 50 = .ok (.return_, 1) := by decide +kernel
theorem dp120m7_0 : decode prog_120_method_7_code 0 = .ok (.iconst 1, 1) := by decide +kernel
theorem dp120m7_1 : decode prog_120_method_7_code 1 = .ok (.istore_n 2, 1) := by decide +kernel
theorem dp120m7_2 : decode prog_120_method_7_code 2 = .ok (.iconst 0, 1) := by decide +kernel
theorem dp120m7_3 : decode prog_120_method_7_code 3 = .ok (.istore_n 3, 1) := by decide +kernel
theorem dp120m7_4 : decode prog_120_method_7_code 4 = .ok (.iload_n 2, 1) := by decide +kernel
theorem dp120m7_5 : decode prog_120_method_7_code 5 = .ok (.aload_n 0, 1) := by decide +kernel
theorem dp120m7_6 : decode prog_120_method_7_code 6 = .ok (.getfield 7, 3) := by decide +kernel
theorem dp120m7_9 : decode prog_120_method_7_code 9 = .ok (.if_icmp .ge 45, 3) := by decide +kernel
theorem dp120m7_12 : decode prog_120_method_7_code 12 = .ok (.iconst 2, 1) := by decide +kernel
theorem dp120m7_13 : decode prog_120_method_7_code 13 = .ok (.iload_n 2, 1) := by decide +kernel
theorem dp120m7_14 : decode prog_120_method_7_code 14 = .ok (.imul, 1) := by decide +kernel
theorem dp120m7_15 : decode prog_120_method_7_code 15 = .ok (.istore 4, 2) := by decide +kernel
theorem dp120m7_17 : decode prog_120_method_7_code 17 = .ok (.iload_n 1, 1) := by decide +kernel
theorem dp120m7_18 : decode prog_120_method_7_code 18 = .ok (.iload_n 3, 1) := by decide +kernel
theorem dp120m7_19 : decode prog_120_method_7_code 19 = .ok (.aload_n 0, 1) := by decide +kernel
theorem dp120m7_20 : decode prog_120_method_7_code 20 = .ok (.getfield 17, 3) := by decide +kernel
theorem dp120m7_23 : decode prog_120_method_7_code 23 = .ok (.iload 4, 2) := by decide +kernel
theorem dp120m7_25 : decode prog_120_method_7_code 25 = .ok (.iaload, 1) := by decide +kernel
theorem dp120m7_26 : decode prog_120_method_7_code 26 = .ok (.iadd, 1) := by decide +kernel
theorem dp120m7_27 : decode prog_120_method_7_code 27 = .ok (.if_icmp .ge 9, 3) := by decide +kernel
theorem dp120m7_30 : decode prog_120_method_7_code 30 = .ok (.iload 4, 2) := by decide +kernel
theorem dp120m7_32 : decode prog_120_method_7_code 32 = .ok (.istore_n 2, 1) := by decide +kernel
theorem dp120m7_33 : decode prog_120_method_7_code 33 = .ok (.goto 18, 3) := by decide +kernel
theorem dp120m7_36 : decode prog_120_method_7_code 36 = .ok (.iload_n 3, 1) := by decide +kernel
theorem dp120m7_37 : decode prog_120_method_7_code 37 = .ok (.aload_n 0, 1) := by decide +kernel
theorem dp120m7_38 : decode prog_120_method_7_code 38 = .ok (.getfield 17, 3) := by decide +kernel
theorem dp120m7_41 : decode prog_120_method_7_code 41 = .ok (.iload 4, 2) := by decide +kernel
theorem dp120m7_43 : decode prog_120_method_7_code 43 = .ok (.iaload, 1) := by decide +kernel
theorem dp120m7_44 : decode prog_120_method_7_code 44 = .ok (.iadd, 1) := by decide +kernel
theorem dp120m7_45 : decode prog_120_method_7_code 45 = .ok (.istore_n 3, 1) := by decide +kernel
theorem dp120m7_46 : decode prog_120_method_7_code 46 = .ok (.iload 4, 2) := by decide +kernel
theorem dp120m7_48 : decode prog_120_method_7_code 48 = .ok (.iconst 1, 1) := by decide +kernel
theorem dp120m7_49 : decode prog_120_method_7_code 49 = .ok (.iadd, 1) := by decide +kernel
theorem dp120m7_50 : decode prog_120_method_7_code 50 = .ok (.istore_n 2, 1) := by decide +kernel
theorem dp120m7_51 : decode prog_120_method_7_code 51 = .ok (.goto (-47), 3) := by decide +kernel
theorem dp120m7_54 : decode prog_120_method_7_code 54 = .ok (.aload_n 0, 1) := by decide +kernel
theorem dp120m7_55 : decode prog_120_method_7_code 55 = .ok (.iload_n 3, 1) := by decide +kernel
theorem dp120m7_56 : decode prog_120_method_7_code 56 = .ok (.putfield 64, 3) := by decide +kernel
theorem dp120m7_59 : decode prog_120_method_7_code 59 = .ok (.iload_n 2, 1) := by decide +kernel
theorem dp120m7_60 : decode prog_120_method_7_code 60 = .ok (.aload_n 0, 1) := by decide +kernel
theorem dp120m7_61 : decode prog_120_method_7_code 61 = .ok (.getfield 7, 3) := by decide +kernel
theorem dp120m7_64 : decode prog_120_method_7_code 64 = .ok (.isub, 1) := by decide +kernel
theorem dp120m7_65 : decode prog_120_method_7_code 65 = .ok (.ireturn, 1) := by decide +kernel
theorem dp120m10_0 : decode prog_120_method_10_code 0 = .ok (.aload_n 0, 1) := by decide +kernel
theorem dp120m10_1 : decode prog_120_method_10_code 1 = .ok (.getfield 64, 3) := by decide +kernel
theorem dp120m10_4 : decode prog_120_method_10_code 4 = .ok (.ireturn, 1) := by decide +kernel
def Gs (Z : State) (h : Heap) (a : Nat) (u_leaves u_depth u_rates u_counts u_pending u_pendingCount u_rebuild u_countBefore : Value) : Prop := Exa Z h a "com/example/lucky_fork/luckyfork/model/GroupSums" ∧ Fld Z h a "com/example/lucky_fork/luckyfork/model/GroupSums" "leaves" "I" u_leaves ∧ Fld Z h a "com/example/lucky_fork/luckyfork/model/GroupSums" "depth" "I" u_depth ∧ Fld Z h a "com/example/lucky_fork/luckyfork/model/GroupSums" "rates" "[D" u_rates ∧ Fld Z h a "com/example/lucky_fork/luckyfork/model/GroupSums" "counts" "[I" u_counts ∧ Fld Z h a "com/example/lucky_fork/luckyfork/model/GroupSums" "pending" "[I" u_pending ∧ Fld Z h a "com/example/lucky_fork/luckyfork/model/GroupSums" "pendingCount" "I" u_pendingCount ∧ Fld Z h a "com/example/lucky_fork/luckyfork/model/GroupSums" "rebuild" "Z" u_rebuild ∧ Fld Z h a "com/example/lucky_fork/luckyfork/model/GroupSums" "countBefore" "I" u_countBefore
theorem Gs.ext {Z : State} {h h' : Heap} {a : Nat} {u_leaves u_depth u_rates u_counts u_pending u_pendingCount u_rebuild u_countBefore : Value} (S : Gs Z h a u_leaves u_depth u_rates u_counts u_pending u_pendingCount u_rebuild u_countBefore) (E : Ext h h') : Gs Z h' a u_leaves u_depth u_rates u_counts u_pending u_pendingCount u_rebuild u_countBefore := ⟨Exa.ext E S.1, Fld.ext E (S.2.1), Fld.ext E (S.2.2.1), Fld.ext E (S.2.2.2.1), Fld.ext E (S.2.2.2.2.1), Fld.ext E (S.2.2.2.2.2.1), Fld.ext E (S.2.2.2.2.2.2.1), Fld.ext E (S.2.2.2.2.2.2.2.1), Fld.ext E (S.2.2.2.2.2.2.2.2)⟩
theorem Gs.far {Z : State} {h h' : Heap} {a b : Nat} {u_leaves u_depth u_rates u_counts u_pending u_pendingCount u_rebuild u_countBefore u : Value} {sl : Nat} (S : Gs Z h a u_leaves u_depth u_rates u_counts u_pending u_pendingCount u_rebuild u_countBefore) (W : Wr h h' b sl u) (ne : a ≠ b) : Gs Z h' a u_leaves u_depth u_rates u_counts u_pending u_pendingCount u_rebuild u_countBefore := ⟨Exa.wr W S.1, Fld.other W (S.2.1) (Or.inl ne), Fld.other W (S.2.2.1) (Or.inl ne), Fld.other W (S.2.2.2.1) (Or.inl ne), Fld.other W (S.2.2.2.2.1) (Or.inl ne), Fld.other W (S.2.2.2.2.2.1) (Or.inl ne), Fld.other W (S.2.2.2.2.2.2.1) (Or.inl ne), Fld.other W (S.2.2.2.2.2.2.2.1) (Or.inl ne), Fld.other W (S.2.2.2.2.2.2.2.2) (Or.inl ne)⟩
theorem Gs.lt {Z : State} {h : Heap} {a : Nat} {u_leaves u_depth u_rates u_counts u_pending u_pendingCount u_rebuild u_countBefore : Value} (S : Gs Z h a u_leaves u_depth u_rates u_counts u_pending u_pendingCount u_rebuild u_countBefore) : a < h.size := S.1.lt
theorem Gs.put_leaves {Z : State} {h h' : Heap} {a : Nat} {u_leaves u_depth u_rates u_counts u_pending u_pendingCount u_rebuild u_countBefore u : Value} {a0 : Array Value} (S : Gs Z h a u_leaves u_depth u_rates u_counts u_pending u_pendingCount u_rebuild u_countBefore) (hw : ∀ d ∈ tables_1, d.before a0 Z = true) (W : Wr h h' a (Jvm.RoadKit.slotOf Z "com/example/lucky_fork/luckyfork/model/GroupSums" "leaves" "I") u) : Gs Z h' a u u_depth u_rates u_counts u_pending u_pendingCount u_rebuild u_countBefore := ⟨Exa.wr W S.1, Fld.same W (S.2.1), Fld.other W (S.2.2.1) (Or.inr (slot_ne (C := "com/example/lucky_fork/luckyfork/model/GroupSums") (Or.inl (hw _ (List.mem_of_getElem? (i := 45) rfl))) (Or.inl (hw _ (List.mem_of_getElem? (i := 14) rfl))) (by decide) (t := .int) (by decide) (t' := .int) (by decide))), Fld.other W (S.2.2.2.1) (Or.inr (slot_ne (C := "com/example/lucky_fork/luckyfork/model/GroupSums") (Or.inl (hw _ (List.mem_of_getElem? (i := 17) rfl))) (Or.inl (hw _ (List.mem_of_getElem? (i := 14) rfl))) (by decide) (t := (.array .double)) (by decide) (t' := .int) (by decide))), Fld.other W (S.2.2.2.2.1) (Or.inr (slot_ne (C := "com/example/lucky_fork/luckyfork/model/GroupSums") (Or.inl (hw _ (List.mem_of_getElem? (i := 20) rfl))) (Or.inl (hw _ (List.mem_of_getElem? (i := 14) rfl))) (by decide) (t := (.array .int)) (by decide) (t' := .int) (by decide))), Fld.other W (S.2.2.2.2.2.1) (Or.inr (slot_ne (C := "com/example/lucky_fork/luckyfork/model/GroupSums") (Or.inl (hw _ (List.mem_of_getElem? (i := 22) rfl))) (Or.inl (hw _ (List.mem_of_getElem? (i := 14) rfl))) (by decide) (t := (.array .int)) (by decide) (t' := .int) (by decide))), Fld.other W (S.2.2.2.2.2.2.1) (Or.inr (slot_ne (C := "com/example/lucky_fork/luckyfork/model/GroupSums") (Or.inl (hw _ (List.mem_of_getElem? (i := 36) rfl))) (Or.inl (hw _ (List.mem_of_getElem? (i := 14) rfl))) (by decide) (t := .int) (by decide) (t' := .int) (by decide))), Fld.other W (S.2.2.2.2.2.2.2.1) (Or.inr (slot_ne (C := "com/example/lucky_fork/luckyfork/model/GroupSums") (Or.inl (hw _ (List.mem_of_getElem? (i := 38) rfl))) (Or.inl (hw _ (List.mem_of_getElem? (i := 14) rfl))) (by decide) (t := .boolean) (by decide) (t' := .int) (by decide))), Fld.other W (S.2.2.2.2.2.2.2.2) (Or.inr (slot_ne (C := "com/example/lucky_fork/luckyfork/model/GroupSums") (Or.inl (hw _ (List.mem_of_getElem? (i := 80) rfl))) (Or.inl (hw _ (List.mem_of_getElem? (i := 14) rfl))) (by decide) (t := .int) (by decide) (t' := .int) (by decide)))⟩
theorem Gs.put_depth {Z : State} {h h' : Heap} {a : Nat} {u_leaves u_depth u_rates u_counts u_pending u_pendingCount u_rebuild u_countBefore u : Value} {a0 : Array Value} (S : Gs Z h a u_leaves u_depth u_rates u_counts u_pending u_pendingCount u_rebuild u_countBefore) (hw : ∀ d ∈ tables_1, d.before a0 Z = true) (W : Wr h h' a (Jvm.RoadKit.slotOf Z "com/example/lucky_fork/luckyfork/model/GroupSums" "depth" "I") u) : Gs Z h' a u_leaves u u_rates u_counts u_pending u_pendingCount u_rebuild u_countBefore := ⟨Exa.wr W S.1, Fld.other W (S.2.1) (Or.inr (slot_ne (C := "com/example/lucky_fork/luckyfork/model/GroupSums") (Or.inl (hw _ (List.mem_of_getElem? (i := 14) rfl))) (Or.inl (hw _ (List.mem_of_getElem? (i := 45) rfl))) (by decide) (t := .int) (by decide) (t' := .int) (by decide))), Fld.same W (S.2.2.1), Fld.other W (S.2.2.2.1) (Or.inr (slot_ne (C := "com/example/lucky_fork/luckyfork/model/GroupSums") (Or.inl (hw _ (List.mem_of_getElem? (i := 17) rfl))) (Or.inl (hw _ (List.mem_of_getElem? (i := 45) rfl))) (by decide) (t := (.array .double)) (by decide) (t' := .int) (by decide))), Fld.other W (S.2.2.2.2.1) (Or.inr (slot_ne (C := "com/example/lucky_fork/luckyfork/model/GroupSums") (Or.inl (hw _ (List.mem_of_getElem? (i := 20) rfl))) (Or.inl (hw _ (List.mem_of_getElem? (i := 45) rfl))) (by decide) (t := (.array .int)) (by decide) (t' := .int) (by decide))), Fld.other W (S.2.2.2.2.2.1) (Or.inr (slot_ne (C := "com/example/lucky_fork/luckyfork/model/GroupSums") (Or.inl (hw _ (List.mem_of_getElem? (i := 22) rfl))) (Or.inl (hw _ (List.mem_of_getElem? (i := 45) rfl))) (by decide) (t := (.array .int)) (by decide) (t' := .int) (by decide))), Fld.other W (S.2.2.2.2.2.2.1) (Or.inr (slot_ne (C := "com/example/lucky_fork/luckyfork/model/GroupSums") (Or.inl (hw _ (List.mem_of_getElem? (i := 36) rfl))) (Or.inl (hw _ (List.mem_of_getElem? (i := 45) rfl))) (by decide) (t := .int) (by decide) (t' := .int) (by decide))), Fld.other W (S.2.2.2.2.2.2.2.1) (Or.inr (slot_ne (C := "com/example/lucky_fork/luckyfork/model/GroupSums") (Or.inl (hw _ (List.mem_of_getElem? (i := 38) rfl))) (Or.inl (hw _ (List.mem_of_getElem? (i := 45) rfl))) (by decide) (t := .boolean) (by decide) (t' := .int) (by decide))), Fld.other W (S.2.2.2.2.2.2.2.2) (Or.inr (slot_ne (C := "com/example/lucky_fork/luckyfork/model/GroupSums") (Or.inl (hw _ (List.mem_of_getElem? (i := 80) rfl))) (Or.inl (hw _ (List.mem_of_getElem? (i := 45) rfl))) (by decide) (t := .int) (by decide) (t' := .int) (by decide)))⟩
theorem Gs.put_rates {Z : State} {h h' : Heap} {a : Nat} {u_leaves u_depth u_rates u_counts u_pending u_pendingCount u_rebuild u_countBefore u : Value} {a0 : Array Value} (S : Gs Z h a u_leaves u_depth u_rates u_counts u_pending u_pendingCount u_rebuild u_countBefore) (hw : ∀ d ∈ tables_1, d.before a0 Z = true) (W : Wr h h' a (Jvm.RoadKit.slotOf Z "com/example/lucky_fork/luckyfork/model/GroupSums" "rates" "[D") u) : Gs Z h' a u_leaves u_depth u u_counts u_pending u_pendingCount u_rebuild u_countBefore := ⟨Exa.wr W S.1, Fld.other W (S.2.1) (Or.inr (slot_ne (C := "com/example/lucky_fork/luckyfork/model/GroupSums") (Or.inl (hw _ (List.mem_of_getElem? (i := 14) rfl))) (Or.inl (hw _ (List.mem_of_getElem? (i := 17) rfl))) (by decide) (t := .int) (by decide) (t' := (.array .double)) (by decide))), Fld.other W (S.2.2.1) (Or.inr (slot_ne (C := "com/example/lucky_fork/luckyfork/model/GroupSums") (Or.inl (hw _ (List.mem_of_getElem? (i := 45) rfl))) (Or.inl (hw _ (List.mem_of_getElem? (i := 17) rfl))) (by decide) (t := .int) (by decide) (t' := (.array .double)) (by decide))), Fld.same W (S.2.2.2.1), Fld.other W (S.2.2.2.2.1) (Or.inr (slot_ne (C := "com/example/lucky_fork/luckyfork/model/GroupSums") (Or.inl (hw _ (List.mem_of_getElem? (i := 20) rfl))) (Or.inl (hw _ (List.mem_of_getElem? (i := 17) rfl))) (by decide) (t := (.array .int)) (by decide) (t' := (.array .double)) (by decide))), Fld.other W (S.2.2.2.2.2.1) (Or.inr (slot_ne (C := "com/example/lucky_fork/luckyfork/model/GroupSums") (Or.inl (hw _ (List.mem_of_getElem? (i := 22) rfl))) (Or.inl (hw _ (List.mem_of_getElem? (i := 17) rfl))) (by decide) (t := (.array .int)) (by decide) (t' := (.array .double)) (by decide))), Fld.other W (S.2.2.2.2.2.2.1) (Or.inr (slot_ne (C := "com/example/lucky_fork/luckyfork/model/GroupSums") (Or.inl (hw _ (List.mem_of_getElem? (i := 36) rfl))) (Or.inl (hw _ (List.mem_of_getElem? (i := 17) rfl))) (by decide) (t := .int) (by decide) (t' := (.array .double)) (by decide))), Fld.other W (S.2.2.2.2.2.2.2.1) (Or.inr (slot_ne (C := "com/example/lucky_fork/luckyfork/model/GroupSums") (Or.inl (hw _ (List.mem_of_getElem? (i := 38) rfl))) (Or.inl (hw _ (List.mem_of_getElem? (i := 17) rfl))) (by decide) (t := .boolean) (by decide) (t' := (.array .double)) (by decide))), Fld.other W (S.2.2.2.2.2.2.2.2) (Or.inr (slot_ne (C := "com/example/lucky_fork/luckyfork/model/GroupSums") (Or.inl (hw _ (List.mem_of_getElem? (i := 80) rfl))) (Or.inl (hw _ (List.mem_of_getElem? (i := 17) rfl))) (by decide) (t := .int) (by decide) (t' := (.array .double)) (by decide)))⟩
theorem Gs.put_counts {Z : State} {h h' : Heap} {a : Nat} {u_leaves u_depth u_rates u_counts u_pending u_pendingCount u_rebuild u_countBefore u : Value} {a0 : Array Value} (S : Gs Z h a u_leaves u_depth u_rates u_counts u_pending u_pendingCount u_rebuild u_countBefore) (hw : ∀ d ∈ tables_1, d.before a0 Z = true) (W : Wr h h' a (Jvm.RoadKit.slotOf Z "com/example/lucky_fork/luckyfork/model/GroupSums" "counts" "[I") u) : Gs Z h' a u_leaves u_depth u_rates u u_pending u_pendingCount u_rebuild u_countBefore := ⟨Exa.wr W S.1, Fld.other W (S.2.1) (Or.inr (slot_ne (C := "com/example/lucky_fork/luckyfork/model/GroupSums") (Or.inl (hw _ (List.mem_of_getElem? (i := 14) rfl))) (Or.inl (hw _ (List.mem_of_getElem? (i := 20) rfl))) (by decide) (t := .int) (by decide) (t' := (.array .int)) (by decide))), Fld.other W (S.2.2.1) (Or.inr (slot_ne (C := "com/example/lucky_fork/luckyfork/model/GroupSums") (Or.inl (hw _ (List.mem_of_getElem? (i := 45) rfl))) (Or.inl (hw _ (List.mem_of_getElem? (i := 20) rfl))) (by decide) (t := .int) (by decide) (t' := (.array .int)) (by decide))), Fld.other W (S.2.2.2.1) (Or.inr (slot_ne (C := "com/example/lucky_fork/luckyfork/model/GroupSums") (Or.inl (hw _ (List.mem_of_getElem? (i := 17) rfl))) (Or.inl (hw _ (List.mem_of_getElem? (i := 20) rfl))) (by decide) (t := (.array .double)) (by decide) (t' := (.array .int)) (by decide))), Fld.same W (S.2.2.2.2.1), Fld.other W (S.2.2.2.2.2.1) (Or.inr (slot_ne (C := "com/example/lucky_fork/luckyfork/model/GroupSums") (Or.inl (hw _ (List.mem_of_getElem? (i := 22) rfl))) (Or.inl (hw _ (List.mem_of_getElem? (i := 20) rfl))) (by decide) (t := (.array .int)) (by decide) (t' := (.array .int)) (by decide))), Fld.other W (S.2.2.2.2.2.2.1) (Or.inr (slot_ne (C := "com/example/lucky_fork/luckyfork/model/GroupSums") (Or.inl (hw _ (List.mem_of_getElem? (i := 36) rfl))) (Or.inl (hw _ (List.mem_of_getElem? (i := 20) rfl))) (by decide) (t := .int) (by decide) (t' := (.array .int)) (by decide))), Fld.other W (S.2.2.2.2.2.2.2.1) (Or.inr (slot_ne (C := "com/example/lucky_fork/luckyfork/model/GroupSums") (Or.inl (hw _ (List.mem_of_getElem? (i := 38) rfl))) (Or.inl (hw _ (List.mem_of_getElem? (i := 20) rfl))) (by decide) (t := .boolean) (by decide) (t' := (.array .int)) (by decide))), Fld.other W (S.2.2.2.2.2.2.2.2) (Or.inr (slot_ne (C := "com/example/lucky_fork/luckyfork/model/GroupSums") (Or.inl (hw _ (List.mem_of_getElem? (i := 80) rfl))) (Or.inl (hw _ (List.mem_of_getElem? (i := 20) rfl))) (by decide) (t := .int) (by decide) (t' := (.array .int)) (by decide)))⟩
theorem Gs.put_pending {Z : State} {h h' : Heap} {a : Nat} {u_leaves u_depth u_rates u_counts u_pending u_pendingCount u_rebuild u_countBefore u : Value} {a0 : Array Value} (S : Gs Z h a u_leaves u_depth u_rates u_counts u_pending u_pendingCount u_rebuild u_countBefore) (hw : ∀ d ∈ tables_1, d.before a0 Z = true) (W : Wr h h' a (Jvm.RoadKit.slotOf Z "com/example/lucky_fork/luckyfork/model/GroupSums" "pending" "[I") u) : Gs Z h' a u_leaves u_depth u_rates u_counts u u_pendingCount u_rebuild u_countBefore := ⟨Exa.wr W S.1, Fld.other W (S.2.1) (Or.inr (slot_ne (C := "com/example/lucky_fork/luckyfork/model/GroupSums") (Or.inl (hw _ (List.mem_of_getElem? (i := 14) rfl))) (Or.inl (hw _ (List.mem_of_getElem? (i := 22) rfl))) (by decide) (t := .int) (by decide) (t' := (.array .int)) (by decide))), Fld.other W (S.2.2.1) (Or.inr (slot_ne (C := "com/example/lucky_fork/luckyfork/model/GroupSums") (Or.inl (hw _ (List.mem_of_getElem? (i := 45) rfl))) (Or.inl (hw _ (List.mem_of_getElem? (i := 22) rfl))) (by decide) (t := .int) (by decide) (t' := (.array .int)) (by decide))), Fld.other W (S.2.2.2.1) (Or.inr (slot_ne (C := "com/example/lucky_fork/luckyfork/model/GroupSums") (Or.inl (hw _ (List.mem_of_getElem? (i := 17) rfl))) (Or.inl (hw _ (List.mem_of_getElem? (i := 22) rfl))) (by decide) (t := (.array .double)) (by decide) (t' := (.array .int)) (by decide))), Fld.other W (S.2.2.2.2.1) (Or.inr (slot_ne (C := "com/example/lucky_fork/luckyfork/model/GroupSums") (Or.inl (hw _ (List.mem_of_getElem? (i := 20) rfl))) (Or.inl (hw _ (List.mem_of_getElem? (i := 22) rfl))) (by decide) (t := (.array .int)) (by decide) (t' := (.array .int)) (by decide))), Fld.same W (S.2.2.2.2.2.1), Fld.other W (S.2.2.2.2.2.2.1) (Or.inr (slot_ne (C := "com/example/lucky_fork/luckyfork/model/GroupSums") (Or.inl (hw _ (List.mem_of_getElem? (i := 36) rfl))) (Or.inl (hw _ (List.mem_of_getElem? (i := 22) rfl))) (by decide) (t := .int) (by decide) (t' := (.array .int)) (by decide))), Fld.other W (S.2.2.2.2.2.2.2.1) (Or.inr (slot_ne (C := "com/example/lucky_fork/luckyfork/model/GroupSums") (Or.inl (hw _ (List.mem_of_getElem? (i := 38) rfl))) (Or.inl (hw _ (List.mem_of_getElem? (i := 22) rfl))) (by decide) (t := .boolean) (by decide) (t' := (.array .int)) (by decide))), Fld.other W (S.2.2.2.2.2.2.2.2) (Or.inr (slot_ne (C := "com/example/lucky_fork/luckyfork/model/GroupSums") (Or.inl (hw _ (List.mem_of_getElem? (i := 80) rfl))) (Or.inl (hw _ (List.mem_of_getElem? (i := 22) rfl))) (by decide) (t := .int) (by decide) (t' := (.array .int)) (by decide)))⟩
theorem Gs.put_pendingCount {Z : State} {h h' : Heap} {a : Nat} {u_leaves u_depth u_rates u_counts u_pending u_pendingCount u_rebuild u_countBefore u : Value} {a0 : Array Value} (S : Gs Z h a u_leaves u_depth u_rates u_counts u_pending u_pendingCount u_rebuild u_countBefore) (hw : ∀ d ∈ tables_1, d.before a0 Z = true) (W : Wr h h' a (Jvm.RoadKit.slotOf Z "com/example/lucky_fork/luckyfork/model/GroupSums" "pendingCount" "I") u) : Gs Z h' a u_leaves u_depth u_rates u_counts u_pending u u_rebuild u_countBefore := ⟨Exa.wr W S.1, Fld.other W (S.2.1) (Or.inr (slot_ne (C := "com/example/lucky_fork/luckyfork/model/GroupSums") (Or.inl (hw _ (List.mem_of_getElem? (i := 14) rfl))) (Or.inl (hw _ (List.mem_of_getElem? (i := 36) rfl))) (by decide) (t := .int) (by decide) (t' := .int) (by decide))), Fld.other W (S.2.2.1) (Or.inr (slot_ne (C := "com/example/lucky_fork/luckyfork/model/GroupSums") (Or.inl (hw _ (List.mem_of_getElem? (i := 45) rfl))) (Or.inl (hw _ (List.mem_of_getElem? (i := 36) rfl))) (by decide) (t := .int) (by decide) (t' := .int) (by decide))), Fld.other W (S.2.2.2.1) (Or.inr (slot_ne (C := "com/example/lucky_fork/luckyfork/model/GroupSums") (Or.inl (hw _ (List.mem_of_getElem? (i := 17) rfl))) (Or.inl (hw _ (List.mem_of_getElem? (i := 36) rfl))) (by decide) (t := (.array .double)) (by decide) (t' := .int) (by decide))), Fld.other W (S.2.2.2.2.1) (Or.inr (slot_ne (C := "com/example/lucky_fork/luckyfork/model/GroupSums") (Or.inl (hw _ (List.mem_of_getElem? (i := 20) rfl))) (Or.inl (hw _ (List.mem_of_getElem? (i := 36) rfl))) (by decide) (t := (.array .int)) (by decide) (t' := .int) (by decide))), Fld.other W (S.2.2.2.2.2.1) (Or.inr (slot_ne (C := "com/example/lucky_fork/luckyfork/model/GroupSums") (Or.inl (hw _ (List.mem_of_getElem? (i := 22) rfl))) (Or.inl (hw _ (List.mem_of_getElem? (i := 36) rfl))) (by decide) (t := (.array .int)) (by decide) (t' := .int) (by decide))), Fld.same W (S.2.2.2.2.2.2.1), Fld.other W (S.2.2.2.2.2.2.2.1) (Or.inr (slot_ne (C := "com/example/lucky_fork/luckyfork/model/GroupSums") (Or.inl (hw _ (List.mem_of_getElem? (i := 38) rfl))) (Or.inl (hw _ (List.mem_of_getElem? (i := 36) rfl))) (by decide) (t := .boolean) (by decide) (t' := .int) (by decide))), Fld.other W (S.2.2.2.2.2.2.2.2) (Or.inr (slot_ne (C := "com/example/lucky_fork/luckyfork/model/GroupSums") (Or.inl (hw _ (List.mem_of_getElem? (i := 80) rfl))) (Or.inl (hw _ (List.mem_of_getElem? (i := 36) rfl))) (by decide) (t := .int) (by decide) (t' := .int) (by decide)))⟩
theorem Gs.put_rebuild {Z : State} {h h' : Heap} {a : Nat} {u_leaves u_depth u_rates u_counts u_pending u_pendingCount u_rebuild u_countBefore u : Value} {a0 : Array Value} (S : Gs Z h a u_leaves u_depth u_rates u_counts u_pending u_pendingCount u_rebuild u_countBefore) (hw : ∀ d ∈ tables_1, d.before a0 Z = true) (W : Wr h h' a (Jvm.RoadKit.slotOf Z "com/example/lucky_fork/luckyfork/model/GroupSums" "rebuild" "Z") u) : Gs Z h' a u_leaves u_depth u_rates u_counts u_pending u_pendingCount u u_countBefore := ⟨Exa.wr W S.1, Fld.other W (S.2.1) (Or.inr (slot_ne (C := "com/example/lucky_fork/luckyfork/model/GroupSums") (Or.inl (hw _ (List.mem_of_getElem? (i := 14) rfl))) (Or.inl (hw _ (List.mem_of_getElem? (i := 38) rfl))) (by decide) (t := .int) (by decide) (t' := .boolean) (by decide))), Fld.other W (S.2.2.1) (Or.inr (slot_ne (C := "com/example/lucky_fork/luckyfork/model/GroupSums") (Or.inl (hw _ (List.mem_of_getElem? (i := 45) rfl))) (Or.inl (hw _ (List.mem_of_getElem? (i := 38) rfl))) (by decide) (t := .int) (by decide) (t' := .boolean) (by decide))), Fld.other W (S.2.2.2.1) (Or.inr (slot_ne (C := "com/example/lucky_fork/luckyfork/model/GroupSums") (Or.inl (hw _ (List.mem_of_getElem? (i := 17) rfl))) (Or.inl (hw _ (List.mem_of_getElem? (i := 38) rfl))) (by decide) (t := (.array .double)) (by decide) (t' := .boolean) (by decide))), Fld.other W (S.2.2.2.2.1) (Or.inr (slot_ne (C := "com/example/lucky_fork/luckyfork/model/GroupSums") (Or.inl (hw _ (List.mem_of_getElem? (i := 20) rfl))) (Or.inl (hw _ (List.mem_of_getElem? (i := 38) rfl))) (by decide) (t := (.array .int)) (by decide) (t' := .boolean) (by decide))), Fld.other W (S.2.2.2.2.2.1) (Or.inr (slot_ne (C := "com/example/lucky_fork/luckyfork/model/GroupSums") (Or.inl (hw _ (List.mem_of_getElem? (i := 22) rfl))) (Or.inl (hw _ (List.mem_of_getElem? (i := 38) rfl))) (by decide) (t := (.array .int)) (by decide) (t' := .boolean) (by decide))), Fld.other W (S.2.2.2.2.2.2.1) (Or.inr (slot_ne (C := "com/example/lucky_fork/luckyfork/model/GroupSums") (Or.inl (hw _ (List.mem_of_getElem? (i := 36) rfl))) (Or.inl (hw _ (List.mem_of_getElem? (i := 38) rfl))) (by decide) (t := .int) (by decide) (t' := .boolean) (by decide))), Fld.same W (S.2.2.2.2.2.2.2.1), Fld.other W (S.2.2.2.2.2.2.2.2) (Or.inr (slot_ne (C := "com/example/lucky_fork/luckyfork/model/GroupSums") (Or.inl (hw _ (List.mem_of_getElem? (i := 80) rfl))) (Or.inl (hw _ (List.mem_of_getElem? (i := 38) rfl))) (by decide) (t := .int) (by decide) (t' := .boolean) (by decide)))⟩
theorem Gs.put_countBefore {Z : State} {h h' : Heap} {a : Nat} {u_leaves u_depth u_rates u_counts u_pending u_pendingCount u_rebuild u_countBefore u : Value} {a0 : Array Value} (S : Gs Z h a u_leaves u_depth u_rates u_counts u_pending u_pendingCount u_rebuild u_countBefore) (hw : ∀ d ∈ tables_1, d.before a0 Z = true) (W : Wr h h' a (Jvm.RoadKit.slotOf Z "com/example/lucky_fork/luckyfork/model/GroupSums" "countBefore" "I") u) : Gs Z h' a u_leaves u_depth u_rates u_counts u_pending u_pendingCount u_rebuild u := ⟨Exa.wr W S.1, Fld.other W (S.2.1) (Or.inr (slot_ne (C := "com/example/lucky_fork/luckyfork/model/GroupSums") (Or.inl (hw _ (List.mem_of_getElem? (i := 14) rfl))) (Or.inl (hw _ (List.mem_of_getElem? (i := 80) rfl))) (by decide) (t := .int) (by decide) (t' := .int) (by decide))), Fld.other W (S.2.2.1) (Or.inr (slot_ne (C := "com/example/lucky_fork/luckyfork/model/GroupSums") (Or.inl (hw _ (List.mem_of_getElem? (i := 45) rfl))) (Or.inl (hw _ (List.mem_of_getElem? (i := 80) rfl))) (by decide) (t := .int) (by decide) (t' := .int) (by decide))), Fld.other W (S.2.2.2.1) (Or.inr (slot_ne (C := "com/example/lucky_fork/luckyfork/model/GroupSums") (Or.inl (hw _ (List.mem_of_getElem? (i := 17) rfl))) (Or.inl (hw _ (List.mem_of_getElem? (i := 80) rfl))) (by decide) (t := (.array .double)) (by decide) (t' := .int) (by decide))), Fld.other W (S.2.2.2.2.1) (Or.inr (slot_ne (C := "com/example/lucky_fork/luckyfork/model/GroupSums") (Or.inl (hw _ (List.mem_of_getElem? (i := 20) rfl))) (Or.inl (hw _ (List.mem_of_getElem? (i := 80) rfl))) (by decide) (t := (.array .int)) (by decide) (t' := .int) (by decide))), Fld.other W (S.2.2.2.2.2.1) (Or.inr (slot_ne (C := "com/example/lucky_fork/luckyfork/model/GroupSums") (Or.inl (hw _ (List.mem_of_getElem? (i := 22) rfl))) (Or.inl (hw _ (List.mem_of_getElem? (i := 80) rfl))) (by decide) (t := (.array .int)) (by decide) (t' := .int) (by decide))), Fld.other W (S.2.2.2.2.2.2.1) (Or.inr (slot_ne (C := "com/example/lucky_fork/luckyfork/model/GroupSums") (Or.inl (hw _ (List.mem_of_getElem? (i := 36) rfl))) (Or.inl (hw _ (List.mem_of_getElem? (i := 80) rfl))) (by decide) (t := .int) (by decide) (t' := .int) (by decide))), Fld.other W (S.2.2.2.2.2.2.2.1) (Or.inr (slot_ne (C := "com/example/lucky_fork/luckyfork/model/GroupSums") (Or.inl (hw _ (List.mem_of_getElem? (i := 38) rfl))) (Or.inl (hw _ (List.mem_of_getElem? (i := 80) rfl))) (by decide) (t := .boolean) (by decide) (t' := .int) (by decide))), Fld.same W (S.2.2.2.2.2.2.2.2)⟩
def Gt (Z : State) (h : Heap) (n0 : Nat) (a r c p : Nat) (lv dp pn rb cb : Int32) (rs cs ps : List Value) : Prop := Gs Z h a (.int lv) (.int dp) (.ref r) (.ref c) (.ref p) (.int pn) (.int rb) (.int cb) ∧ Arl Z h r .double rs ∧ Arl Z h c .int cs ∧ Arl Z h p .int ps ∧ (n0 ≤ a ∧ n0 ≤ r ∧ n0 ≤ c ∧ n0 ≤ p) ∧ (a ≠ r ∧ a ≠ c ∧ a ≠ p ∧ r ≠ c ∧ r ≠ p ∧ c ≠ p)
theorem Gt.put_leaves {Z : State} {h h' : Heap} {n0 : Nat} {a r c p : Nat} {lv dp pn rb cb : Int32} {rs cs ps : List Value} {a0 : Array Value} {u : Int32} (S : Gt Z h n0 a r c p lv dp pn rb cb rs cs ps) (hw : ∀ d ∈ tables_1, d.before a0 Z = true) (W : Wr h h' a (Jvm.RoadKit.slotOf Z "com/example/lucky_fork/luckyfork/model/GroupSums" "leaves" "I") (.int u)) : Gt Z h' n0 a r c p u dp pn rb cb rs cs ps := ⟨S.1.put_leaves hw W, S.2.1.far W S.2.2.2.2.2.1.symm, S.2.2.1.far W S.2.2.2.2.2.2.1.symm, S.2.2.2.1.far W S.2.2.2.2.2.2.2.1.symm, S.2.2.2.2⟩
theorem Gt.put_depth {Z : State} {h h' : Heap} {n0 : Nat} {a r c p : Nat} {lv dp pn rb cb : Int32} {rs cs ps : List Value} {a0 : Array Value} {u : Int32} (S : Gt Z h n0 a r c p lv dp pn rb cb rs cs ps) (hw : ∀ d ∈ tables_1, d.before a0 Z = true) (W : Wr h h' a (Jvm.RoadKit.slotOf Z "com/example/lucky_fork/luckyfork/model/GroupSums" "depth" "I") (.int u)) : Gt Z h' n0 a r c p lv u pn rb cb rs cs ps := ⟨S.1.put_depth hw W, S.2.1.far W S.2.2.2.2.2.1.symm, S.2.2.1.far W S.2.2.2.2.2.2.1.symm, S.2.2.2.1.far W S.2.2.2.2.2.2.2.1.symm, S.2.2.2.2⟩
theorem Gt.put_pendingCount {Z : State} {h h' : Heap} {n0 : Nat} {a r c p : Nat} {lv dp pn rb cb : Int32} {rs cs ps : List Value} {a0 : Array Value} {u : Int32} (S : Gt Z h n0 a r c p lv dp pn rb cb rs cs ps) (hw : ∀ d ∈ tables_1, d.before a0 Z = true) (W : Wr h h' a (Jvm.RoadKit.slotOf Z "com/example/lucky_fork/luckyfork/model/GroupSums" "pendingCount" "I") (.int u)) : Gt Z h' n0 a r c p lv dp u rb cb rs cs ps := ⟨S.1.put_pendingCount hw W, S.2.1.far W S.2.2.2.2.2.1.symm, S.2.2.1.far W S.2.2.2.2.2.2.1.symm, S.2.2.2.1.far W S.2.2.2.2.2.2.2.1.symm, S.2.2.2.2⟩
theorem Gt.put_rebuild {Z : State} {h h' : Heap} {n0 : Nat} {a r c p : Nat} {lv dp pn rb cb : Int32} {rs cs ps : List Value} {a0 : Array Value} {u : Int32} (S : Gt Z h n0 a r c p lv dp pn rb cb rs cs ps) (hw : ∀ d ∈ tables_1, d.before a0 Z = true) (W : Wr h h' a (Jvm.RoadKit.slotOf Z "com/example/lucky_fork/luckyfork/model/GroupSums" "rebuild" "Z") (.int u)) : Gt Z h' n0 a r c p lv dp pn u cb rs cs ps := ⟨S.1.put_rebuild hw W, S.2.1.far W S.2.2.2.2.2.1.symm, S.2.2.1.far W S.2.2.2.2.2.2.1.symm, S.2.2.2.1.far W S.2.2.2.2.2.2.2.1.symm, S.2.2.2.2⟩
theorem Gt.put_countBefore {Z : State} {h h' : Heap} {n0 : Nat} {a r c p : Nat} {lv dp pn rb cb : Int32} {rs cs ps : List Value} {a0 : Array Value} {u : Int32} (S : Gt Z h n0 a r c p lv dp pn rb cb rs cs ps) (hw : ∀ d ∈ tables_1, d.before a0 Z = true) (W : Wr h h' a (Jvm.RoadKit.slotOf Z "com/example/lucky_fork/luckyfork/model/GroupSums" "countBefore" "I") (.int u)) : Gt Z h' n0 a r c p lv dp pn rb u rs cs ps := ⟨S.1.put_countBefore hw W, S.2.1.far W S.2.2.2.2.2.1.symm, S.2.2.1.far W S.2.2.2.2.2.2.1.symm, S.2.2.2.1.far W S.2.2.2.2.2.2.2.1.symm, S.2.2.2.2⟩
theorem Gt.setR {Z : State} {h h' : Heap} {n0 : Nat} {a r c p : Nat} {lv dp pn rb cb : Int32} {rs cs ps : List Value} {k : Nat} {v : Value} (S : Gt Z h n0 a r c p lv dp pn rb cb rs cs ps) (W : Wr h h' r k v) : Gt Z h' n0 a r c p lv dp pn rb cb (rs.set k v) cs ps := ⟨S.1.far W S.2.2.2.2.2.1, S.2.1.put W, S.2.2.1.far W S.2.2.2.2.2.2.2.2.1.symm, S.2.2.2.1.far W S.2.2.2.2.2.2.2.2.2.1.symm, S.2.2.2.2⟩
theorem Gt.setC {Z : State} {h h' : Heap} {n0 : Nat} {a r c p : Nat} {lv dp pn rb cb : Int32} {rs cs ps : List Value} {k : Nat} {v : Value} (S : Gt Z h n0 a r c p lv dp pn rb cb rs cs ps) (W : Wr h h' c k v) : Gt Z h' n0 a r c p lv dp pn rb cb rs (cs.set k v) ps := ⟨S.1.far W S.2.2.2.2.2.2.1, S.2.1.far W S.2.2.2.2.2.2.2.2.1, S.2.2.1.put W, S.2.2.2.1.far W S.2.2.2.2.2.2.2.2.2.2.symm, S.2.2.2.2⟩
theorem Gt.setP {Z : State} {h h' : Heap} {n0 : Nat} {a r c p : Nat} {lv dp pn rb cb : Int32} {rs cs ps : List Value} {k : Nat} {v : Value} (S : Gt Z h n0 a r c p lv dp pn rb cb rs cs ps) (W : Wr h h' p k v) : Gt Z h' n0 a r c p lv dp pn rb cb rs cs (ps.set k v) := ⟨S.1.far W S.2.2.2.2.2.2.2.1, S.2.1.far W S.2.2.2.2.2.2.2.2.2.1, S.2.2.1.far W S.2.2.2.2.2.2.2.2.2.2, S.2.2.2.1.put W, S.2.2.2.2⟩
theorem Gt.z0 {Z : State} {h : Heap} {n0 : Nat} {a r c p : Nat} {lv dp pn rb cb : Int32} {rs cs ps : List Value} (S : Gt Z h n0 a r c p lv dp pn rb cb rs cs ps) : n0 ≤ h.size := Nat.le_of_lt (Nat.lt_of_le_of_lt S.2.2.2.2.1.1 S.1.lt)
theorem own_d00 : FP.dadd 0 0 = 0 := by decide +kernel
theorem own_n00 : Jvm.Free.Fl.NoNaN64 (FP.dadd 0 0) := by rw [own_d00]; unfold Jvm.Free.Fl.NoNaN64; decide
theorem own_add {x y z : Int32} (e : x + y = z) (b1 : 0 ≤ x.toInt) (b2 : x.toInt < 1073741824) (b3 : 0 ≤ y.toInt) (b4 : y.toInt < 1073741824) : z.toInt = x.toInt + y.toInt := by
  have h1 := c_iadd x y
  have h2 := rng32 (x + y)
  rw [e] at h1 h2
  omega
set_option maxRecDepth 65536 in
set_option maxHeartbeats 40000000 in
theorem own_init (l : Launch) (Z : State) (a0 : Array Value) (hw : ∀ d ∈ tables_1, d.before a0 Z = true) (h0 : Heap) (n0 : Nat) (Z0 : n0 ≤ h0.size) (a : Nat) (ge : n0 ≤ a) (S : Gs Z h0 a (.int 0) (.int 0) .null .null .null (.int 0) (.int 0) (.int 0)) :
    Met l Z (⟨"com/example/lucky_fork/luckyfork/model/GroupSums", "<init>", "()V"⟩ : MethodName) prog_120_method_1_code 1 none ({ frames := 1, cells := 3, slots := 12, locals := 12 } : Room) n0 #[(.ref a)] h0 (fun v h => v = none ∧ ∃ r c p, Gt Z h n0 a r c p (1 : Int32) (0 : Int32) (0 : Int32) (0 : Int32) (0 : Int32) [(.double (0 : UInt64)), (.double (0 : UInt64))] [(.int (0 : Int32)), (.int (0 : Int32))] [(.int (0 : Int32)), (.int (0 : Int32)), (.int (0 : Int32)), (.int (0 : Int32)), (.int (0 : Int32)), (.int (0 : Int32)), (.int (0 : Int32)), (.int (0 : Int32))]) := by
  refine Met.of (Ls := #[.val (.ref a)]) (plainFor_of_name pn_0) (fun m => by first | (simp [entryFrame, mkF, argsToLocals, Value.category, maxLocals]; done) | rfl) (fun κ w => ?_)
  replace w : Wk κ l Z "com/example/lucky_fork/luckyfork/model/GroupSums" "<init>" prog_120_method_1_code 1 none ({ frames := 1, cells := 3, slots := 12, locals := 12 } : Room) n0 h0 0 0 0 #[.val (.ref a)] [] := w
  replace w := w.aloadN (q := 1) (v := (.ref a)) dp120m1_0 rfl rfl rfl
  replace w := w.initO (q := 4) (hw _ (List.mem_of_getElem? (i := 10) rfl)) (hw _ (List.mem_of_getElem? (i := 11) rfl)) (hw _ (List.mem_of_getElem? (i := 12) rfl)) dp120m1_1 rfl (by decide) (W := 0) (Nat.le_of_eq rfl) (by decide) rfl
  replace w := w.aloadN (q := 5) (v := (.ref a)) dp120m1_4 rfl rfl rfl
  replace w := w.iconst (q := 6) (z := (1 : Int32)) dp120m1_5 (by decide) rfl
  obtain ⟨h1, W2, w⟩ := w.putF (q := 9) (C := "com/example/lucky_fork/luckyfork/model/GroupSums") (hw _ (List.mem_of_getElem? (i := 13) rfl)) (S.2.1) (S.1) (Or.inl (hw _ (List.mem_of_getElem? (i := 14) rfl))) (hw _ (List.mem_of_getElem? (i := 5) rfl)) (ty := .int) (by decide) rfl rfl dp120m1_6 (ge) rfl
  replace S := S.put_leaves hw W2
  replace w := w.aloadN (q := 10) (v := (.ref a)) dp120m1_9 rfl rfl rfl
  replace w := w.iconst (q := 11) (z := (2 : Int32)) dp120m1_10 (by decide) rfl
  obtain ⟨h3, r, cr, er, Er, Ar, w⟩ := w.newP (q := 13) (cap := 2) (ty := .double) (hw _ (List.mem_of_getElem? (i := 15) rfl)) rfl dp120m1_11 (by decide) (by decide) (by decide) (by decide) (by decide) rfl
  have lt_r : a < r := by rw [er]; exact S.lt
  replace S := S.ext Er
  have Fr : Arl Z h3 r .double [.double 0, .double 0] := Arl.new Ar rfl
  obtain ⟨h4, W5, w⟩ := w.putF (q := 16) (C := "com/example/lucky_fork/luckyfork/model/GroupSums") (hw _ (List.mem_of_getElem? (i := 16) rfl)) (S.2.2.2.1) (S.1) (Or.inl (hw _ (List.mem_of_getElem? (i := 17) rfl))) (hw _ (List.mem_of_getElem? (i := 5) rfl)) (ty := (.array .double)) (by decide) rfl rfl dp120m1_13 (ge) rfl
  replace S := S.put_rates hw W5
  replace Fr := Fr.far W5 (by omega)
  replace w := w.aloadN (q := 17) (v := (.ref a)) dp120m1_16 rfl rfl rfl
  replace w := w.iconst (q := 18) (z := (2 : Int32)) dp120m1_17 (by decide) rfl
  obtain ⟨h6, c, cc, ec, Ec, Ac, w⟩ := w.newP (q := 20) (cap := 2) (ty := .int) (hw _ (List.mem_of_getElem? (i := 18) rfl)) rfl dp120m1_18 (by decide) (by decide) (by decide) (by decide) (by decide) rfl
  have lt_c : a < c := by rw [ec]; exact S.lt
  have lt_r_c : r < c := by rw [ec]; exact Fr.lt
  replace S := S.ext Ec
  replace Fr := Fr.ext Ec
  have Fc : Arl Z h6 c .int [.int 0, .int 0] := Arl.new Ac rfl
  obtain ⟨h7, W8, w⟩ := w.putF (q := 23) (C := "com/example/lucky_fork/luckyfork/model/GroupSums") (hw _ (List.mem_of_getElem? (i := 19) rfl)) (S.2.2.2.2.1) (S.1) (Or.inl (hw _ (List.mem_of_getElem? (i := 20) rfl))) (hw _ (List.mem_of_getElem? (i := 5) rfl)) (ty := (.array .int)) (by decide) rfl rfl dp120m1_20 (ge) rfl
  replace S := S.put_counts hw W8
  replace Fr := Fr.far W8 (by omega)
  replace Fc := Fc.far W8 (by omega)
  replace w := w.aloadN (q := 24) (v := (.ref a)) dp120m1_23 rfl rfl rfl
  replace w := w.bipush (q := 26) (z := (8 : Int32)) dp120m1_24 (by decide) rfl
  obtain ⟨h9, p, cp, ep, Ep, Ap, w⟩ := w.newP (q := 28) (cap := 8) (ty := .int) (hw _ (List.mem_of_getElem? (i := 18) rfl)) rfl dp120m1_26 (by decide) (by decide) (by decide) (by decide) (by decide) rfl
  have lt_p : a < p := by rw [ep]; exact S.lt
  have lt_r_p : r < p := by rw [ep]; exact Fr.lt
  have lt_c_p : c < p := by rw [ep]; exact Fc.lt
  replace S := S.ext Ep
  replace Fr := Fr.ext Ep
  replace Fc := Fc.ext Ep
  have Fp : Arl Z h9 p .int [.int 0, .int 0, .int 0, .int 0, .int 0, .int 0, .int 0, .int 0] := Arl.new Ap rfl
  obtain ⟨h10, W11, w⟩ := w.putF (q := 31) (C := "com/example/lucky_fork/luckyfork/model/GroupSums") (hw _ (List.mem_of_getElem? (i := 21) rfl)) (S.2.2.2.2.2.1) (S.1) (Or.inl (hw _ (List.mem_of_getElem? (i := 22) rfl))) (hw _ (List.mem_of_getElem? (i := 5) rfl)) (ty := (.array .int)) (by decide) rfl rfl dp120m1_28 (ge) rfl
  replace S := S.put_pending hw W11
  replace Fr := Fr.far W11 (by omega)
  replace Fc := Fc.far W11 (by omega)
  replace Fp := Fp.far W11 (by omega)
  exact w.retV dp120m1_31 ⟨rfl, r, c, p, S, Fr, Fc, Fp, ⟨ge, by omega, by omega, by omega⟩, by omega, by omega, by omega, by omega, by omega, by omega⟩ (by decide) (by decide)
set_option maxRecDepth 65536 in
set_option maxHeartbeats 40000000 in
theorem own_nlz_1 (l : Launch) (Z : State) (a0 : Array Value) (hw : ∀ d ∈ tables_1, d.before a0 Z = true) (h0 : Heap) (n0 : Nat) (Z0 : n0 ≤ h0.size)  :
    Met l Z (⟨"java/lang/Integer", "numberOfLeadingZeros", "(I)I"⟩ : MethodName) jdk_33_method_47_code 2 (some .int) ({ frames := 0, cells := 0, slots := 0, locals := 0 } : Room) n0 #[(.int (1 : Int32))] h0 (fun v h => h = h0 ∧ v = some (.int (31 : Int32))) := by
  refine Met.of (Ls := #[.val (.int (1 : Int32)), .unset]) (plainFor_of_name pn_1) (fun m => by first | (simp [entryFrame, mkF, argsToLocals, Value.category, maxLocals]; done) | rfl) (fun κ w => ?_)
  replace w : Wk κ l Z "java/lang/Integer" "numberOfLeadingZeros" jdk_33_method_47_code 2 (some .int) ({ frames := 0, cells := 0, slots := 0, locals := 0 } : Room) n0 h0 0 0 0 #[.val (.int (1 : Int32)), .unset] [] := w
  replace w := w.iloadN (q := 1) (v := (1 : Int32)) dj33m47_0 rfl rfl
  obtain ⟨-, w⟩ := (w.ifGt (q := 15) (q' := 4) (xi := 1) dj33m47_1 rfl (by decide) (by decide) rfl).resolve_right (fun g => by have hc1 := g.1; revert hc1; decide)
  replace w := w.bipush (q := 17) (z := (31 : Int32)) dj33m47_15 (by decide) rfl
  replace w := w.istoreN (q := 18) (l' := #[.val (.int (1 : Int32)), .val (.int (31 : Int32))]) dj33m47_17 rfl rfl
  replace w := w.iloadN (q := 19) (v := (1 : Int32)) dj33m47_18 rfl rfl
  replace w := w.ldcWI (q := 22) (z := (65536 : Int32)) (hw _ (List.mem_of_getElem? (i := 64) rfl)) dj33m47_19 rfl
  obtain ⟨-, w⟩ := (w.icmpLt (q := 33) (q' := 25) (xi := 1) (yi := 65536) dj33m47_22 rfl rfl (by decide) (by decide) rfl).resolve_right (fun g => by have hc22 := g.1; revert hc22; decide)
  replace w := w.iloadN (q := 34) (v := (1 : Int32)) dj33m47_33 rfl rfl
  replace w := w.sipush (q := 37) (z := (256 : Int32)) dj33m47_34 (by decide) rfl
  obtain ⟨-, w⟩ := (w.icmpLt (q := 48) (q' := 40) (xi := 1) (yi := 256) dj33m47_37 rfl rfl (by decide) (by decide) rfl).resolve_right (fun g => by have hc37 := g.1; revert hc37; decide)
  replace w := w.iloadN (q := 49) (v := (1 : Int32)) dj33m47_48 rfl rfl
  replace w := w.bipush (q := 51) (z := (16 : Int32)) dj33m47_49 (by decide) rfl
  obtain ⟨-, w⟩ := (w.icmpLt (q := 61) (q' := 54) (xi := 1) (yi := 16) dj33m47_51 rfl rfl (by decide) (by decide) rfl).resolve_right (fun g => by have hc51 := g.1; revert hc51; decide)
  replace w := w.iloadN (q := 62) (v := (1 : Int32)) dj33m47_61 rfl rfl
  replace w := w.iconst (q := 63) (z := (4 : Int32)) dj33m47_62 (by decide) rfl
  obtain ⟨-, w⟩ := (w.icmpLt (q := 73) (q' := 66) (xi := 1) (yi := 4) dj33m47_63 rfl rfl (by decide) (by decide) rfl).resolve_right (fun g => by have hc63 := g.1; revert hc63; decide)
  replace w := w.iloadN (q := 74) (v := (31 : Int32)) dj33m47_73 rfl rfl
  replace w := w.iloadN (q := 75) (v := (1 : Int32)) dj33m47_74 rfl rfl
  replace w := w.iconst (q := 76) (z := (1 : Int32)) dj33m47_75 (by decide) rfl
  replace w := w.iushr (q := 77) (z := (0 : Int32)) dj33m47_76 (by decide) rfl
  replace w := w.isub (q := 78) (z := (31 : Int32)) dj33m47_77 (by decide) rfl
  exact w.retI dj33m47_78 ⟨rfl, rfl⟩ (by decide) (by decide)
set_option maxRecDepth 65536 in
set_option maxHeartbeats 40000000 in
theorem own_hob_1 (l : Launch) (Z : State) (a0 : Array Value) (hw : ∀ d ∈ tables_1, d.before a0 Z = true) (h0 : Heap) (n0 : Nat) (Z0 : n0 ≤ h0.size)  :
    Met l Z (⟨"java/lang/Integer", "highestOneBit", "(I)I"⟩ : MethodName) jdk_33_method_45_code 1 (some .int) ({ frames := 1, cells := 0, slots := 0, locals := 15 } : Room) n0 #[(.int (1 : Int32))] h0 (fun v h => h = h0 ∧ v = some (.int (1 : Int32))) := by
  refine Met.of (Ls := #[.val (.int (1 : Int32))]) (plainFor_of_name pn_1) (fun m => by first | (simp [entryFrame, mkF, argsToLocals, Value.category, maxLocals]; done) | rfl) (fun κ w => ?_)
  replace w : Wk κ l Z "java/lang/Integer" "highestOneBit" jdk_33_method_45_code 1 (some .int) ({ frames := 1, cells := 0, slots := 0, locals := 15 } : Room) n0 h0 0 0 0 #[.val (.int (1 : Int32))] [] := w
  replace w := w.iloadN (q := 1) (v := (1 : Int32)) dj33m45_0 rfl rfl
  replace w := w.ldcI (q := 3) (z := (-2147483648 : Int32)) (hw _ (List.mem_of_getElem? (i := 60) rfl)) dj33m45_1 rfl
  replace w := w.iloadN (q := 4) (v := (1 : Int32)) dj33m45_3 rfl rfl
  obtain ⟨_, _, ⟨eh, rfl⟩, w⟩ := w.callS (y := (⟨"java/lang/Integer", "numberOfLeadingZeros", "(I)I"⟩ : MethodName)) (argsL := [(.int (1 : Int32))]) (rest := [(.int (-2147483648 : Int32)), (.int (1 : Int32))]) (own_nlz_1 l Z a0 hw _ n0 Z0) (hw _ (List.mem_of_getElem? (i := 61) rfl)) (hw _ (List.mem_of_getElem? (i := 62) rfl)) (hw _ (List.mem_of_getElem? (i := 58) rfl)) (hw _ (List.mem_of_getElem? (i := 63) rfl)) (by decide) dj33m45_4 (lenOf pd_0 rfl) rfl rfl (by decide) (W := 2) (Nat.le_of_eq rfl) (by decide) (by decide) (by decide) (q := 7) rfl
  rw [eh] at w
  replace w := w [(.int (31 : Int32)), (.int (-2147483648 : Int32)), (.int (1 : Int32))] rfl
  replace w := w.iushr (q := 8) (z := (1 : Int32)) dj33m45_7 (by decide) rfl
  replace w := w.iand (q := 9) (z := (1 : Int32)) dj33m45_8 (by decide) rfl
  exact w.retI dj33m45_9 ⟨rfl, rfl⟩ (by decide) (by decide)
set_option maxRecDepth 65536 in
set_option maxHeartbeats 40000000 in
theorem own_nlz_2 (l : Launch) (Z : State) (a0 : Array Value) (hw : ∀ d ∈ tables_1, d.before a0 Z = true) (h0 : Heap) (n0 : Nat) (Z0 : n0 ≤ h0.size)  :
    Met l Z (⟨"java/lang/Integer", "numberOfLeadingZeros", "(I)I"⟩ : MethodName) jdk_33_method_47_code 2 (some .int) ({ frames := 0, cells := 0, slots := 0, locals := 0 } : Room) n0 #[(.int (2 : Int32))] h0 (fun v h => h = h0 ∧ v = some (.int (30 : Int32))) := by
  refine Met.of (Ls := #[.val (.int (2 : Int32)), .unset]) (plainFor_of_name pn_1) (fun m => by first | (simp [entryFrame, mkF, argsToLocals, Value.category, maxLocals]; done) | rfl) (fun κ w => ?_)
  replace w : Wk κ l Z "java/lang/Integer" "numberOfLeadingZeros" jdk_33_method_47_code 2 (some .int) ({ frames := 0, cells := 0, slots := 0, locals := 0 } : Room) n0 h0 0 0 0 #[.val (.int (2 : Int32)), .unset] [] := w
  replace w := w.iloadN (q := 1) (v := (2 : Int32)) dj33m47_0 rfl rfl
  obtain ⟨-, w⟩ := (w.ifGt (q := 15) (q' := 4) (xi := 2) dj33m47_1 rfl (by decide) (by decide) rfl).resolve_right (fun g => by have hc1 := g.1; revert hc1; decide)
  replace w := w.bipush (q := 17) (z := (31 : Int32)) dj33m47_15 (by decide) rfl
  replace w := w.istoreN (q := 18) (l' := #[.val (.int (2 : Int32)), .val (.int (31 : Int32))]) dj33m47_17 rfl rfl
  replace w := w.iloadN (q := 19) (v := (2 : Int32)) dj33m47_18 rfl rfl
  replace w := w.ldcWI (q := 22) (z := (65536 : Int32)) (hw _ (List.mem_of_getElem? (i := 64) rfl)) dj33m47_19 rfl
  obtain ⟨-, w⟩ := (w.icmpLt (q := 33) (q' := 25) (xi := 2) (yi := 65536) dj33m47_22 rfl rfl (by decide) (by decide) rfl).resolve_right (fun g => by have hc22 := g.1; revert hc22; decide)
  replace w := w.iloadN (q := 34) (v := (2 : Int32)) dj33m47_33 rfl rfl
  replace w := w.sipush (q := 37) (z := (256 : Int32)) dj33m47_34 (by decide) rfl
  obtain ⟨-, w⟩ := (w.icmpLt (q := 48) (q' := 40) (xi := 2) (yi := 256) dj33m47_37 rfl rfl (by decide) (by decide) rfl).resolve_right (fun g => by have hc37 := g.1; revert hc37; decide)
  replace w := w.iloadN (q := 49) (v := (2 : Int32)) dj33m47_48 rfl rfl
  replace w := w.bipush (q := 51) (z := (16 : Int32)) dj33m47_49 (by decide) rfl
  obtain ⟨-, w⟩ := (w.icmpLt (q := 61) (q' := 54) (xi := 2) (yi := 16) dj33m47_51 rfl rfl (by decide) (by decide) rfl).resolve_right (fun g => by have hc51 := g.1; revert hc51; decide)
  replace w := w.iloadN (q := 62) (v := (2 : Int32)) dj33m47_61 rfl rfl
  replace w := w.iconst (q := 63) (z := (4 : Int32)) dj33m47_62 (by decide) rfl
  obtain ⟨-, w⟩ := (w.icmpLt (q := 73) (q' := 66) (xi := 2) (yi := 4) dj33m47_63 rfl rfl (by decide) (by decide) rfl).resolve_right (fun g => by have hc63 := g.1; revert hc63; decide)
  replace w := w.iloadN (q := 74) (v := (31 : Int32)) dj33m47_73 rfl rfl
  replace w := w.iloadN (q := 75) (v := (2 : Int32)) dj33m47_74 rfl rfl
  replace w := w.iconst (q := 76) (z := (1 : Int32)) dj33m47_75 (by decide) rfl
  replace w := w.iushr (q := 77) (z := (1 : Int32)) dj33m47_76 (by decide) rfl
  replace w := w.isub (q := 78) (z := (30 : Int32)) dj33m47_77 (by decide) rfl
  exact w.retI dj33m47_78 ⟨rfl, rfl⟩ (by decide) (by decide)
set_option maxRecDepth 65536 in
set_option maxHeartbeats 40000000 in
theorem own_hob_2 (l : Launch) (Z : State) (a0 : Array Value) (hw : ∀ d ∈ tables_1, d.before a0 Z = true) (h0 : Heap) (n0 : Nat) (Z0 : n0 ≤ h0.size)  :
    Met l Z (⟨"java/lang/Integer", "highestOneBit", "(I)I"⟩ : MethodName) jdk_33_method_45_code 1 (some .int) ({ frames := 1, cells := 0, slots := 0, locals := 15 } : Room) n0 #[(.int (2 : Int32))] h0 (fun v h => h = h0 ∧ v = some (.int (2 : Int32))) := by
  refine Met.of (Ls := #[.val (.int (2 : Int32))]) (plainFor_of_name pn_1) (fun m => by first | (simp [entryFrame, mkF, argsToLocals, Value.category, maxLocals]; done) | rfl) (fun κ w => ?_)
  replace w : Wk κ l Z "java/lang/Integer" "highestOneBit" jdk_33_method_45_code 1 (some .int) ({ frames := 1, cells := 0, slots := 0, locals := 15 } : Room) n0 h0 0 0 0 #[.val (.int (2 : Int32))] [] := w
  replace w := w.iloadN (q := 1) (v := (2 : Int32)) dj33m45_0 rfl rfl
  replace w := w.ldcI (q := 3) (z := (-2147483648 : Int32)) (hw _ (List.mem_of_getElem? (i := 60) rfl)) dj33m45_1 rfl
  replace w := w.iloadN (q := 4) (v := (2 : Int32)) dj33m45_3 rfl rfl
  obtain ⟨_, _, ⟨eh, rfl⟩, w⟩ := w.callS (y := (⟨"java/lang/Integer", "numberOfLeadingZeros", "(I)I"⟩ : MethodName)) (argsL := [(.int (2 : Int32))]) (rest := [(.int (-2147483648 : Int32)), (.int (2 : Int32))]) (own_nlz_2 l Z a0 hw _ n0 Z0) (hw _ (List.mem_of_getElem? (i := 61) rfl)) (hw _ (List.mem_of_getElem? (i := 62) rfl)) (hw _ (List.mem_of_getElem? (i := 58) rfl)) (hw _ (List.mem_of_getElem? (i := 63) rfl)) (by decide) dj33m45_4 (lenOf pd_0 rfl) rfl rfl (by decide) (W := 2) (Nat.le_of_eq rfl) (by decide) (by decide) (by decide) (q := 7) rfl
  rw [eh] at w
  replace w := w [(.int (30 : Int32)), (.int (-2147483648 : Int32)), (.int (2 : Int32))] rfl
  replace w := w.iushr (q := 8) (z := (2 : Int32)) dj33m45_7 (by decide) rfl
  replace w := w.iand (q := 9) (z := (2 : Int32)) dj33m45_8 (by decide) rfl
  exact w.retI dj33m45_9 ⟨rfl, rfl⟩ (by decide) (by decide)
set_option maxRecDepth 65536 in
set_option maxHeartbeats 40000000 in
theorem own_nlz_3 (l : Launch) (Z : State) (a0 : Array Value) (hw : ∀ d ∈ tables_1, d.before a0 Z = true) (h0 : Heap) (n0 : Nat) (Z0 : n0 ≤ h0.size)  :
    Met l Z (⟨"java/lang/Integer", "numberOfLeadingZeros", "(I)I"⟩ : MethodName) jdk_33_method_47_code 2 (some .int) ({ frames := 0, cells := 0, slots := 0, locals := 0 } : Room) n0 #[(.int (3 : Int32))] h0 (fun v h => h = h0 ∧ v = some (.int (30 : Int32))) := by
  refine Met.of (Ls := #[.val (.int (3 : Int32)), .unset]) (plainFor_of_name pn_1) (fun m => by first | (simp [entryFrame, mkF, argsToLocals, Value.category, maxLocals]; done) | rfl) (fun κ w => ?_)
  replace w : Wk κ l Z "java/lang/Integer" "numberOfLeadingZeros" jdk_33_method_47_code 2 (some .int) ({ frames := 0, cells := 0, slots := 0, locals := 0 } : Room) n0 h0 0 0 0 #[.val (.int (3 : Int32)), .unset] [] := w
  replace w := w.iloadN (q := 1) (v := (3 : Int32)) dj33m47_0 rfl rfl
  obtain ⟨-, w⟩ := (w.ifGt (q := 15) (q' := 4) (xi := 3) dj33m47_1 rfl (by decide) (by decide) rfl).resolve_right (fun g => by have hc1 := g.1; revert hc1; decide)
  replace w := w.bipush (q := 17) (z := (31 : Int32)) dj33m47_15 (by decide) rfl
  replace w := w.istoreN (q := 18) (l' := #[.val (.int (3 : Int32)), .val (.int (31 : Int32))]) dj33m47_17 rfl rfl
  replace w := w.iloadN (q := 19) (v := (3 : Int32)) dj33m47_18 rfl rfl
  replace w := w.ldcWI (q := 22) (z := (65536 : Int32)) (hw _ (List.mem_of_getElem? (i := 64) rfl)) dj33m47_19 rfl
  obtain ⟨-, w⟩ := (w.icmpLt (q := 33) (q' := 25) (xi := 3) (yi := 65536) dj33m47_22 rfl rfl (by decide) (by decide) rfl).resolve_right (fun g => by have hc22 := g.1; revert hc22; decide)
  replace w := w.iloadN (q := 34) (v := (3 : Int32)) dj33m47_33 rfl rfl
  replace w := w.sipush (q := 37) (z := (256 : Int32)) dj33m47_34 (by decide) rfl
  obtain ⟨-, w⟩ := (w.icmpLt (q := 48) (q' := 40) (xi := 3) (yi := 256) dj33m47_37 rfl rfl (by decide) (by decide) rfl).resolve_right (fun g => by have hc37 := g.1; revert hc37; decide)
  replace w := w.iloadN (q := 49) (v := (3 : Int32)) dj33m47_48 rfl rfl
  replace w := w.bipush (q := 51) (z := (16 : Int32)) dj33m47_49 (by decide) rfl
  obtain ⟨-, w⟩ := (w.icmpLt (q := 61) (q' := 54) (xi := 3) (yi := 16) dj33m47_51 rfl rfl (by decide) (by decide) rfl).resolve_right (fun g => by have hc51 := g.1; revert hc51; decide)
  replace w := w.iloadN (q := 62) (v := (3 : Int32)) dj33m47_61 rfl rfl
  replace w := w.iconst (q := 63) (z := (4 : Int32)) dj33m47_62 (by decide) rfl
  obtain ⟨-, w⟩ := (w.icmpLt (q := 73) (q' := 66) (xi := 3) (yi := 4) dj33m47_63 rfl rfl (by decide) (by decide) rfl).resolve_right (fun g => by have hc63 := g.1; revert hc63; decide)
  replace w := w.iloadN (q := 74) (v := (31 : Int32)) dj33m47_73 rfl rfl
  replace w := w.iloadN (q := 75) (v := (3 : Int32)) dj33m47_74 rfl rfl
  replace w := w.iconst (q := 76) (z := (1 : Int32)) dj33m47_75 (by decide) rfl
  replace w := w.iushr (q := 77) (z := (1 : Int32)) dj33m47_76 (by decide) rfl
  replace w := w.isub (q := 78) (z := (30 : Int32)) dj33m47_77 (by decide) rfl
  exact w.retI dj33m47_78 ⟨rfl, rfl⟩ (by decide) (by decide)
set_option maxRecDepth 65536 in
set_option maxHeartbeats 40000000 in
theorem own_hob_3 (l : Launch) (Z : State) (a0 : Array Value) (hw : ∀ d ∈ tables_1, d.before a0 Z = true) (h0 : Heap) (n0 : Nat) (Z0 : n0 ≤ h0.size)  :
    Met l Z (⟨"java/lang/Integer", "highestOneBit", "(I)I"⟩ : MethodName) jdk_33_method_45_code 1 (some .int) ({ frames := 1, cells := 0, slots := 0, locals := 15 } : Room) n0 #[(.int (3 : Int32))] h0 (fun v h => h = h0 ∧ v = some (.int (2 : Int32))) := by
  refine Met.of (Ls := #[.val (.int (3 : Int32))]) (plainFor_of_name pn_1) (fun m => by first | (simp [entryFrame, mkF, argsToLocals, Value.category, maxLocals]; done) | rfl) (fun κ w => ?_)
  replace w : Wk κ l Z "java/lang/Integer" "highestOneBit" jdk_33_method_45_code 1 (some .int) ({ frames := 1, cells := 0, slots := 0, locals := 15 } : Room) n0 h0 0 0 0 #[.val (.int (3 : Int32))] [] := w
  replace w := w.iloadN (q := 1) (v := (3 : Int32)) dj33m45_0 rfl rfl
  replace w := w.ldcI (q := 3) (z := (-2147483648 : Int32)) (hw _ (List.mem_of_getElem? (i := 60) rfl)) dj33m45_1 rfl
  replace w := w.iloadN (q := 4) (v := (3 : Int32)) dj33m45_3 rfl rfl
  obtain ⟨_, _, ⟨eh, rfl⟩, w⟩ := w.callS (y := (⟨"java/lang/Integer", "numberOfLeadingZeros", "(I)I"⟩ : MethodName)) (argsL := [(.int (3 : Int32))]) (rest := [(.int (-2147483648 : Int32)), (.int (3 : Int32))]) (own_nlz_3 l Z a0 hw _ n0 Z0) (hw _ (List.mem_of_getElem? (i := 61) rfl)) (hw _ (List.mem_of_getElem? (i := 62) rfl)) (hw _ (List.mem_of_getElem? (i := 58) rfl)) (hw _ (List.mem_of_getElem? (i := 63) rfl)) (by decide) dj33m45_4 (lenOf pd_0 rfl) rfl rfl (by decide) (W := 2) (Nat.le_of_eq rfl) (by decide) (by decide) (by decide) (q := 7) rfl
  rw [eh] at w
  replace w := w [(.int (30 : Int32)), (.int (-2147483648 : Int32)), (.int (3 : Int32))] rfl
  replace w := w.iushr (q := 8) (z := (2 : Int32)) dj33m45_7 (by decide) rfl
  replace w := w.iand (q := 9) (z := (2 : Int32)) dj33m45_8 (by decide) rfl
  exact w.retI dj33m45_9 ⟨rfl, rfl⟩ (by decide) (by decide)
set_option maxRecDepth 65536 in
set_option maxHeartbeats 40000000 in
theorem own_ntz_2 (l : Launch) (Z : State) (a0 : Array Value) (hw : ∀ d ∈ tables_1, d.before a0 Z = true) (h0 : Heap) (n0 : Nat) (Z0 : n0 ≤ h0.size)  :
    Met l Z (⟨"java/lang/Integer", "numberOfTrailingZeros", "(I)I"⟩ : MethodName) jdk_33_method_48_code 2 (some .int) ({ frames := 0, cells := 0, slots := 0, locals := 0 } : Room) n0 #[(.int (2 : Int32))] h0 (fun v h => h = h0 ∧ v = some (.int (1 : Int32))) := by
  refine Met.of (Ls := #[.val (.int (2 : Int32)), .unset]) (plainFor_of_name pn_1) (fun m => by first | (simp [entryFrame, mkF, argsToLocals, Value.category, maxLocals]; done) | rfl) (fun κ w => ?_)
  replace w : Wk κ l Z "java/lang/Integer" "numberOfTrailingZeros" jdk_33_method_48_code 2 (some .int) ({ frames := 0, cells := 0, slots := 0, locals := 0 } : Room) n0 h0 0 0 0 #[.val (.int (2 : Int32)), .unset] [] := w
  replace w := w.iloadN (q := 1) (v := (2 : Int32)) dj33m48_0 rfl rfl
  replace w := w.iconst (q := 2) (z := (-1 : Int32)) dj33m48_1 (by decide) rfl
  replace w := w.ixor (q := 3) (z := (-3 : Int32)) dj33m48_2 (by decide) rfl
  replace w := w.iloadN (q := 4) (v := (2 : Int32)) dj33m48_3 rfl rfl
  replace w := w.iconst (q := 5) (z := (1 : Int32)) dj33m48_4 (by decide) rfl
  replace w := w.isub (q := 6) (z := (1 : Int32)) dj33m48_5 (by decide) rfl
  replace w := w.iand (q := 7) (z := (1 : Int32)) dj33m48_6 (by decide) rfl
  replace w := w.istoreN (q := 8) (l' := #[.val (.int (1 : Int32)), .unset]) dj33m48_7 rfl rfl
  replace w := w.iloadN (q := 9) (v := (1 : Int32)) dj33m48_8 rfl rfl
  obtain ⟨-, w⟩ := (w.ifGt (q := 17) (q' := 12) (xi := 1) dj33m48_9 rfl (by decide) (by decide) rfl).resolve_right (fun g => by have hc9 := g.1; revert hc9; decide)
  replace w := w.iconst (q := 18) (z := (1 : Int32)) dj33m48_17 (by decide) rfl
  replace w := w.istoreN (q := 19) (l' := #[.val (.int (1 : Int32)), .val (.int (1 : Int32))]) dj33m48_18 rfl rfl
  replace w := w.iloadN (q := 20) (v := (1 : Int32)) dj33m48_19 rfl rfl
  replace w := w.ldcWI (q := 23) (z := (65536 : Int32)) (hw _ (List.mem_of_getElem? (i := 64) rfl)) dj33m48_20 rfl
  obtain ⟨-, w⟩ := (w.icmpLe (q := 34) (q' := 26) (xi := 1) (yi := 65536) dj33m48_23 rfl rfl (by decide) (by decide) rfl).resolve_right (fun g => by have hc23 := g.1; revert hc23; decide)
  replace w := w.iloadN (q := 35) (v := (1 : Int32)) dj33m48_34 rfl rfl
  replace w := w.sipush (q := 38) (z := (256 : Int32)) dj33m48_35 (by decide) rfl
  obtain ⟨-, w⟩ := (w.icmpLe (q := 49) (q' := 41) (xi := 1) (yi := 256) dj33m48_38 rfl rfl (by decide) (by decide) rfl).resolve_right (fun g => by have hc38 := g.1; revert hc38; decide)
  replace w := w.iloadN (q := 50) (v := (1 : Int32)) dj33m48_49 rfl rfl
  replace w := w.bipush (q := 52) (z := (16 : Int32)) dj33m48_50 (by decide) rfl
  obtain ⟨-, w⟩ := (w.icmpLe (q := 62) (q' := 55) (xi := 1) (yi := 16) dj33m48_52 rfl rfl (by decide) (by decide) rfl).resolve_right (fun g => by have hc52 := g.1; revert hc52; decide)
  replace w := w.iloadN (q := 63) (v := (1 : Int32)) dj33m48_62 rfl rfl
  replace w := w.iconst (q := 64) (z := (4 : Int32)) dj33m48_63 (by decide) rfl
  obtain ⟨-, w⟩ := (w.icmpLe (q := 74) (q' := 67) (xi := 1) (yi := 4) dj33m48_64 rfl rfl (by decide) (by decide) rfl).resolve_right (fun g => by have hc64 := g.1; revert hc64; decide)
  replace w := w.iloadN (q := 75) (v := (1 : Int32)) dj33m48_74 rfl rfl
  replace w := w.iloadN (q := 76) (v := (1 : Int32)) dj33m48_75 rfl rfl
  replace w := w.iconst (q := 77) (z := (1 : Int32)) dj33m48_76 (by decide) rfl
  replace w := w.iushr (q := 78) (z := (0 : Int32)) dj33m48_77 (by decide) rfl
  replace w := w.iadd (q := 79) (z := (1 : Int32)) dj33m48_78 (by decide) rfl
  exact w.retI dj33m48_79 ⟨rfl, rfl⟩ (by decide) (by decide)
set_option maxRecDepth 65536 in
set_option maxHeartbeats 40000000 in
theorem own_ntz_4 (l : Launch) (Z : State) (a0 : Array Value) (hw : ∀ d ∈ tables_1, d.before a0 Z = true) (h0 : Heap) (n0 : Nat) (Z0 : n0 ≤ h0.size)  :
    Met l Z (⟨"java/lang/Integer", "numberOfTrailingZeros", "(I)I"⟩ : MethodName) jdk_33_method_48_code 2 (some .int) ({ frames := 0, cells := 0, slots := 0, locals := 0 } : Room) n0 #[(.int (4 : Int32))] h0 (fun v h => h = h0 ∧ v = some (.int (2 : Int32))) := by
  refine Met.of (Ls := #[.val (.int (4 : Int32)), .unset]) (plainFor_of_name pn_1) (fun m => by first | (simp [entryFrame, mkF, argsToLocals, Value.category, maxLocals]; done) | rfl) (fun κ w => ?_)
  replace w : Wk κ l Z "java/lang/Integer" "numberOfTrailingZeros" jdk_33_method_48_code 2 (some .int) ({ frames := 0, cells := 0, slots := 0, locals := 0 } : Room) n0 h0 0 0 0 #[.val (.int (4 : Int32)), .unset] [] := w
  replace w := w.iloadN (q := 1) (v := (4 : Int32)) dj33m48_0 rfl rfl
  replace w := w.iconst (q := 2) (z := (-1 : Int32)) dj33m48_1 (by decide) rfl
  replace w := w.ixor (q := 3) (z := (-5 : Int32)) dj33m48_2 (by decide) rfl
  replace w := w.iloadN (q := 4) (v := (4 : Int32)) dj33m48_3 rfl rfl
  replace w := w.iconst (q := 5) (z := (1 : Int32)) dj33m48_4 (by decide) rfl
  replace w := w.isub (q := 6) (z := (3 : Int32)) dj33m48_5 (by decide) rfl
  replace w := w.iand (q := 7) (z := (3 : Int32)) dj33m48_6 (by decide) rfl
  replace w := w.istoreN (q := 8) (l' := #[.val (.int (3 : Int32)), .unset]) dj33m48_7 rfl rfl
  replace w := w.iloadN (q := 9) (v := (3 : Int32)) dj33m48_8 rfl rfl
  obtain ⟨-, w⟩ := (w.ifGt (q := 17) (q' := 12) (xi := 3) dj33m48_9 rfl (by decide) (by decide) rfl).resolve_right (fun g => by have hc9 := g.1; revert hc9; decide)
  replace w := w.iconst (q := 18) (z := (1 : Int32)) dj33m48_17 (by decide) rfl
  replace w := w.istoreN (q := 19) (l' := #[.val (.int (3 : Int32)), .val (.int (1 : Int32))]) dj33m48_18 rfl rfl
  replace w := w.iloadN (q := 20) (v := (3 : Int32)) dj33m48_19 rfl rfl
  replace w := w.ldcWI (q := 23) (z := (65536 : Int32)) (hw _ (List.mem_of_getElem? (i := 64) rfl)) dj33m48_20 rfl
  obtain ⟨-, w⟩ := (w.icmpLe (q := 34) (q' := 26) (xi := 3) (yi := 65536) dj33m48_23 rfl rfl (by decide) (by decide) rfl).resolve_right (fun g => by have hc23 := g.1; revert hc23; decide)
  replace w := w.iloadN (q := 35) (v := (3 : Int32)) dj33m48_34 rfl rfl
  replace w := w.sipush (q := 38) (z := (256 : Int32)) dj33m48_35 (by decide) rfl
  obtain ⟨-, w⟩ := (w.icmpLe (q := 49) (q' := 41) (xi := 3) (yi := 256) dj33m48_38 rfl rfl (by decide) (by decide) rfl).resolve_right (fun g => by have hc38 := g.1; revert hc38; decide)
  replace w := w.iloadN (q := 50) (v := (3 : Int32)) dj33m48_49 rfl rfl
  replace w := w.bipush (q := 52) (z := (16 : Int32)) dj33m48_50 (by decide) rfl
  obtain ⟨-, w⟩ := (w.icmpLe (q := 62) (q' := 55) (xi := 3) (yi := 16) dj33m48_52 rfl rfl (by decide) (by decide) rfl).resolve_right (fun g => by have hc52 := g.1; revert hc52; decide)
  replace w := w.iloadN (q := 63) (v := (3 : Int32)) dj33m48_62 rfl rfl
  replace w := w.iconst (q := 64) (z := (4 : Int32)) dj33m48_63 (by decide) rfl
  obtain ⟨-, w⟩ := (w.icmpLe (q := 74) (q' := 67) (xi := 3) (yi := 4) dj33m48_64 rfl rfl (by decide) (by decide) rfl).resolve_right (fun g => by have hc64 := g.1; revert hc64; decide)
  replace w := w.iloadN (q := 75) (v := (1 : Int32)) dj33m48_74 rfl rfl
  replace w := w.iloadN (q := 76) (v := (3 : Int32)) dj33m48_75 rfl rfl
  replace w := w.iconst (q := 77) (z := (1 : Int32)) dj33m48_76 (by decide) rfl
  replace w := w.iushr (q := 78) (z := (1 : Int32)) dj33m48_77 (by decide) rfl
  replace w := w.iadd (q := 79) (z := (2 : Int32)) dj33m48_78 (by decide) rfl
  exact w.retI dj33m48_79 ⟨rfl, rfl⟩ (by decide) (by decide)
set_option maxRecDepth 65536 in
set_option maxHeartbeats 40000000 in
theorem own_fd (l : Launch) (Z : State) (a0 : Array Value) (hw : ∀ d ∈ tables_1, d.before a0 Z = true) (h0 : Heap) (n0 : Nat) (Z0 : n0 ≤ h0.size) (a r c p : Nat) (S : Gt Z h0 n0 a r c p (1 : Int32) (0 : Int32) (0 : Int32) (0 : Int32) (0 : Int32) [(.double (0 : UInt64)), (.double (0 : UInt64))] [(.int (0 : Int32)), (.int (0 : Int32))] [(.int (0 : Int32)), (.int (0 : Int32)), (.int (0 : Int32)), (.int (0 : Int32)), (.int (0 : Int32)), (.int (0 : Int32)), (.int (0 : Int32)), (.int (0 : Int32))]) :
    Met l Z (⟨"java/util/Arrays", "fill", "([DD)V"⟩ : MethodName) jdk_65_method_113_code 5 none ({ frames := 0, cells := 0, slots := 0, locals := 0 } : Room) n0 #[(.ref r), (.double (0 : UInt64))] h0 (fun v h => v = none ∧ Gt Z h n0 a r c p (1 : Int32) (0 : Int32) (0 : Int32) (0 : Int32) (0 : Int32) [(.double (0 : UInt64)), (.double (0 : UInt64))] [(.int (0 : Int32)), (.int (0 : Int32))] [(.int (0 : Int32)), (.int (0 : Int32)), (.int (0 : Int32)), (.int (0 : Int32)), (.int (0 : Int32)), (.int (0 : Int32)), (.int (0 : Int32)), (.int (0 : Int32))]) := by
  refine Met.of (Ls := #[.val (.ref r), .val (.double (0 : UInt64)), .second, .unset, .unset]) (plainFor_of_name pn_2) (fun m => by first | (simp [entryFrame, mkF, argsToLocals, Value.category, maxLocals]; done) | rfl) (fun κ w => ?_)
  replace w : Wk κ l Z "java/util/Arrays" "fill" jdk_65_method_113_code 5 none ({ frames := 0, cells := 0, slots := 0, locals := 0 } : Room) n0 h0 0 0 0 #[.val (.ref r), .val (.double (0 : UInt64)), .second, .unset, .unset] [] := w
  replace w := w.iconst (q := 1) (z := (0 : Int32)) dj65m113_0 (by decide) rfl
  replace w := w.istoreN (q := 2) (l' := #[.val (.ref r), .val (.double (0 : UInt64)), .second, .val (.int (0 : Int32)), .unset]) dj65m113_1 rfl rfl
  replace w := w.aloadN (q := 3) (v := (.ref r)) dj65m113_2 rfl rfl rfl
  replace w := w.lenl (q := 4) (z := 2) (S.2.1) rfl dj65m113_3 rfl
  replace w := w.istore (q := 6) (l' := #[.val (.ref r), .val (.double (0 : UInt64)), .second, .val (.int (0 : Int32)), .val (.int (2 : Int32))]) dj65m113_4 rfl rfl
  replace w := w.iloadN (q := 7) (v := (0 : Int32)) dj65m113_6 rfl rfl
  replace w := w.iload (q := 9) (v := (2 : Int32)) dj65m113_7 rfl rfl
  obtain ⟨-, w⟩ := (w.icmpGe (q := 22) (q' := 12) (xi := 0) (yi := 2) dj65m113_9 rfl rfl (by decide) (by decide) rfl).resolve_left (fun g => by have hc9 := g.1; revert hc9; decide)
  replace w := w.aloadN (q := 13) (v := (.ref r)) dj65m113_12 rfl rfl rfl
  replace w := w.iloadN (q := 14) (v := (0 : Int32)) dj65m113_13 rfl rfl
  replace w := w.dloadN (q := 15) (v := (0 : UInt64)) dj65m113_14 rfl rfl
  obtain ⟨h12, W13, w⟩ := w.stDl (q := 16) (S.2.1) 0 rfl (ltl rfl) (S.2.2.2.2.1.2.1) dj65m113_15 rfl
  replace S := S.setR W13
  replace S : Gt Z h12 n0 a r c p (1 : Int32) (0 : Int32) (0 : Int32) (0 : Int32) (0 : Int32) [(.double (0 : UInt64)), (.double (0 : UInt64))] [(.int (0 : Int32)), (.int (0 : Int32))] [(.int (0 : Int32)), (.int (0 : Int32)), (.int (0 : Int32)), (.int (0 : Int32)), (.int (0 : Int32)), (.int (0 : Int32)), (.int (0 : Int32)), (.int (0 : Int32))] := S
  replace w := w.iinc (q := 19) (z := (1 : Int32)) (l' := #[.val (.ref r), .val (.double (0 : UInt64)), .second, .val (.int (1 : Int32)), .val (.int (2 : Int32))]) dj65m113_16 rfl (by decide) rfl rfl
  replace w := w.goto (q := 6) dj65m113_19 (by decide) (by decide)
  replace w := w.iloadN (q := 7) (v := (1 : Int32)) dj65m113_6 rfl rfl
  replace w := w.iload (q := 9) (v := (2 : Int32)) dj65m113_7 rfl rfl
  obtain ⟨-, w⟩ := (w.icmpGe (q := 22) (q' := 12) (xi := 1) (yi := 2) dj65m113_9 rfl rfl (by decide) (by decide) rfl).resolve_left (fun g => by have hc9 := g.1; revert hc9; decide)
  replace w := w.aloadN (q := 13) (v := (.ref r)) dj65m113_12 rfl rfl rfl
  replace w := w.iloadN (q := 14) (v := (1 : Int32)) dj65m113_13 rfl rfl
  replace w := w.dloadN (q := 15) (v := (0 : UInt64)) dj65m113_14 rfl rfl
  obtain ⟨h14, W15, w⟩ := w.stDl (q := 16) (S.2.1) 1 rfl (ltl rfl) (S.2.2.2.2.1.2.1) dj65m113_15 rfl
  replace S := S.setR W15
  replace S : Gt Z h14 n0 a r c p (1 : Int32) (0 : Int32) (0 : Int32) (0 : Int32) (0 : Int32) [(.double (0 : UInt64)), (.double (0 : UInt64))] [(.int (0 : Int32)), (.int (0 : Int32))] [(.int (0 : Int32)), (.int (0 : Int32)), (.int (0 : Int32)), (.int (0 : Int32)), (.int (0 : Int32)), (.int (0 : Int32)), (.int (0 : Int32)), (.int (0 : Int32))] := S
  replace w := w.iinc (q := 19) (z := (2 : Int32)) (l' := #[.val (.ref r), .val (.double (0 : UInt64)), .second, .val (.int (2 : Int32)), .val (.int (2 : Int32))]) dj65m113_16 rfl (by decide) rfl rfl
  replace w := w.goto (q := 6) dj65m113_19 (by decide) (by decide)
  replace w := w.iloadN (q := 7) (v := (2 : Int32)) dj65m113_6 rfl rfl
  replace w := w.iload (q := 9) (v := (2 : Int32)) dj65m113_7 rfl rfl
  obtain ⟨-, w⟩ := (w.icmpGe (q := 22) (q' := 12) (xi := 2) (yi := 2) dj65m113_9 rfl rfl (by decide) (by decide) rfl).resolve_right (fun g => by have hc9 := g.1; revert hc9; decide)
  exact w.retV dj65m113_22 ⟨rfl, S⟩ (by decide) (by decide)
set_option maxRecDepth 65536 in
set_option maxHeartbeats 40000000 in
theorem own_fi (l : Launch) (Z : State) (a0 : Array Value) (hw : ∀ d ∈ tables_1, d.before a0 Z = true) (h0 : Heap) (n0 : Nat) (Z0 : n0 ≤ h0.size) (a r c p : Nat) (S : Gt Z h0 n0 a r c p (1 : Int32) (0 : Int32) (0 : Int32) (0 : Int32) (0 : Int32) [(.double (0 : UInt64)), (.double (0 : UInt64))] [(.int (0 : Int32)), (.int (0 : Int32))] [(.int (0 : Int32)), (.int (0 : Int32)), (.int (0 : Int32)), (.int (0 : Int32)), (.int (0 : Int32)), (.int (0 : Int32)), (.int (0 : Int32)), (.int (0 : Int32))]) :
    Met l Z (⟨"java/util/Arrays", "fill", "([II)V"⟩ : MethodName) jdk_65_method_103_code 4 none ({ frames := 0, cells := 0, slots := 0, locals := 0 } : Room) n0 #[(.ref c), (.int (0 : Int32))] h0 (fun v h => v = none ∧ Gt Z h n0 a r c p (1 : Int32) (0 : Int32) (0 : Int32) (0 : Int32) (0 : Int32) [(.double (0 : UInt64)), (.double (0 : UInt64))] [(.int (0 : Int32)), (.int (0 : Int32))] [(.int (0 : Int32)), (.int (0 : Int32)), (.int (0 : Int32)), (.int (0 : Int32)), (.int (0 : Int32)), (.int (0 : Int32)), (.int (0 : Int32)), (.int (0 : Int32))]) := by
  refine Met.of (Ls := #[.val (.ref c), .val (.int (0 : Int32)), .unset, .unset]) (plainFor_of_name pn_2) (fun m => by first | (simp [entryFrame, mkF, argsToLocals, Value.category, maxLocals]; done) | rfl) (fun κ w => ?_)
  replace w : Wk κ l Z "java/util/Arrays" "fill" jdk_65_method_103_code 4 none ({ frames := 0, cells := 0, slots := 0, locals := 0 } : Room) n0 h0 0 0 0 #[.val (.ref c), .val (.int (0 : Int32)), .unset, .unset] [] := w
  replace w := w.iconst (q := 1) (z := (0 : Int32)) dj65m103_0 (by decide) rfl
  replace w := w.istoreN (q := 2) (l' := #[.val (.ref c), .val (.int (0 : Int32)), .val (.int (0 : Int32)), .unset]) dj65m103_1 rfl rfl
  replace w := w.aloadN (q := 3) (v := (.ref c)) dj65m103_2 rfl rfl rfl
  replace w := w.lenl (q := 4) (z := 2) (S.2.2.1) rfl dj65m103_3 rfl
  replace w := w.istoreN (q := 5) (l' := #[.val (.ref c), .val (.int (0 : Int32)), .val (.int (0 : Int32)), .val (.int (2 : Int32))]) dj65m103_4 rfl rfl
  replace w := w.iloadN (q := 6) (v := (0 : Int32)) dj65m103_5 rfl rfl
  replace w := w.iloadN (q := 7) (v := (2 : Int32)) dj65m103_6 rfl rfl
  obtain ⟨-, w⟩ := (w.icmpGe (q := 20) (q' := 10) (xi := 0) (yi := 2) dj65m103_7 rfl rfl (by decide) (by decide) rfl).resolve_left (fun g => by have hc7 := g.1; revert hc7; decide)
  replace w := w.aloadN (q := 11) (v := (.ref c)) dj65m103_10 rfl rfl rfl
  replace w := w.iloadN (q := 12) (v := (0 : Int32)) dj65m103_11 rfl rfl
  replace w := w.iloadN (q := 13) (v := (0 : Int32)) dj65m103_12 rfl rfl
  obtain ⟨h16, W17, w⟩ := w.stIl (q := 14) (S.2.2.1) 0 rfl (ltl rfl) (S.2.2.2.2.1.2.2.1) dj65m103_13 rfl
  replace S := S.setC W17
  replace S : Gt Z h16 n0 a r c p (1 : Int32) (0 : Int32) (0 : Int32) (0 : Int32) (0 : Int32) [(.double (0 : UInt64)), (.double (0 : UInt64))] [(.int (0 : Int32)), (.int (0 : Int32))] [(.int (0 : Int32)), (.int (0 : Int32)), (.int (0 : Int32)), (.int (0 : Int32)), (.int (0 : Int32)), (.int (0 : Int32)), (.int (0 : Int32)), (.int (0 : Int32))] := S
  replace w := w.iinc (q := 17) (z := (1 : Int32)) (l' := #[.val (.ref c), .val (.int (0 : Int32)), .val (.int (1 : Int32)), .val (.int (2 : Int32))]) dj65m103_14 rfl (by decide) rfl rfl
  replace w := w.goto (q := 5) dj65m103_17 (by decide) (by decide)
  replace w := w.iloadN (q := 6) (v := (1 : Int32)) dj65m103_5 rfl rfl
  replace w := w.iloadN (q := 7) (v := (2 : Int32)) dj65m103_6 rfl rfl
  obtain ⟨-, w⟩ := (w.icmpGe (q := 20) (q' := 10) (xi := 1) (yi := 2) dj65m103_7 rfl rfl (by decide) (by decide) rfl).resolve_left (fun g => by have hc7 := g.1; revert hc7; decide)
  replace w := w.aloadN (q := 11) (v := (.ref c)) dj65m103_10 rfl rfl rfl
  replace w := w.iloadN (q := 12) (v := (1 : Int32)) dj65m103_11 rfl rfl
  replace w := w.iloadN (q := 13) (v := (0 : Int32)) dj65m103_12 rfl rfl
  obtain ⟨h18, W19, w⟩ := w.stIl (q := 14) (S.2.2.1) 1 rfl (ltl rfl) (S.2.2.2.2.1.2.2.1) dj65m103_13 rfl
  replace S := S.setC W19
  replace S : Gt Z h18 n0 a r c p (1 : Int32) (0 : Int32) (0 : Int32) (0 : Int32) (0 : Int32) [(.double (0 : UInt64)), (.double (0 : UInt64))] [(.int (0 : Int32)), (.int (0 : Int32))] [(.int (0 : Int32)), (.int (0 : Int32)), (.int (0 : Int32)), (.int (0 : Int32)), (.int (0 : Int32)), (.int (0 : Int32)), (.int (0 : Int32)), (.int (0 : Int32))] := S
  replace w := w.iinc (q := 17) (z := (2 : Int32)) (l' := #[.val (.ref c), .val (.int (0 : Int32)), .val (.int (2 : Int32)), .val (.int (2 : Int32))]) dj65m103_14 rfl (by decide) rfl rfl
  replace w := w.goto (q := 5) dj65m103_17 (by decide) (by decide)
  replace w := w.iloadN (q := 6) (v := (2 : Int32)) dj65m103_5 rfl rfl
  replace w := w.iloadN (q := 7) (v := (2 : Int32)) dj65m103_6 rfl rfl
  obtain ⟨-, w⟩ := (w.icmpGe (q := 20) (q' := 10) (xi := 2) (yi := 2) dj65m103_7 rfl rfl (by decide) (by decide) rfl).resolve_right (fun g => by have hc7 := g.1; revert hc7; decide)
  exact w.retV dj65m103_20 ⟨rfl, S⟩ (by decide) (by decide)
set_option maxRecDepth 65536 in
set_option maxHeartbeats 40000000 in
theorem own_clear_1 (l : Launch) (Z : State) (a0 : Array Value) (hw : ∀ d ∈ tables_1, d.before a0 Z = true) (h0 : Heap) (n0 : Nat) (Z0 : n0 ≤ h0.size) (a r c p : Nat) (S : Gt Z h0 n0 a r c p (1 : Int32) (0 : Int32) (0 : Int32) (0 : Int32) (0 : Int32) [(.double (0 : UInt64)), (.double (0 : UInt64))] [(.int (0 : Int32)), (.int (0 : Int32))] [(.int (0 : Int32)), (.int (0 : Int32)), (.int (0 : Int32)), (.int (0 : Int32)), (.int (0 : Int32)), (.int (0 : Int32)), (.int (0 : Int32)), (.int (0 : Int32))]) :
    Met l Z (⟨"com/example/lucky_fork/luckyfork/model/GroupSums", "clear", "(I)V"⟩ : MethodName) prog_120_method_3_code 3 none ({ frames := 2, cells := 0, slots := 0, locals := 27 } : Room) n0 #[(.ref a), (.int (1 : Int32))] h0 (fun v h => v = none ∧ Gt Z h n0 a r c p (1 : Int32) (0 : Int32) (0 : Int32) (0 : Int32) (0 : Int32) [(.double (0 : UInt64)), (.double (0 : UInt64))] [(.int (0 : Int32)), (.int (0 : Int32))] [(.int (0 : Int32)), (.int (0 : Int32)), (.int (0 : Int32)), (.int (0 : Int32)), (.int (0 : Int32)), (.int (0 : Int32)), (.int (0 : Int32)), (.int (0 : Int32))]) := by
  refine Met.of (Ls := #[.val (.ref a), .val (.int (1 : Int32)), .unset]) (plainFor_of_name pn_0) (fun m => by first | (simp [entryFrame, mkF, argsToLocals, Value.category, maxLocals]; done) | rfl) (fun κ w => ?_)
  replace w : Wk κ l Z "com/example/lucky_fork/luckyfork/model/GroupSums" "clear" prog_120_method_3_code 3 none ({ frames := 2, cells := 0, slots := 0, locals := 27 } : Room) n0 h0 0 0 0 #[.val (.ref a), .val (.int (1 : Int32)), .unset] [] := w
  replace w := w.iloadN (q := 1) (v := (1 : Int32)) dp120m3_0 rfl rfl
  replace w := w.iconst (q := 2) (z := (1 : Int32)) dp120m3_1 (by decide) rfl
  obtain ⟨-, w⟩ := (w.icmpGt (q := 9) (q' := 5) (xi := 1) (yi := 1) dp120m3_2 rfl rfl (by decide) (by decide) rfl).resolve_left (fun g => by have hc2 := g.1; revert hc2; decide)
  replace w := w.iconst (q := 6) (z := (1 : Int32)) dp120m3_5 (by decide) rfl
  replace w := w.goto (q := 17) dp120m3_6 (by decide) (by decide)
  replace w := w.istoreN (q := 18) (l' := #[.val (.ref a), .val (.int (1 : Int32)), .val (.int (1 : Int32))]) dp120m3_17 rfl rfl
  replace w := w.iloadN (q := 19) (v := (1 : Int32)) dp120m3_18 rfl rfl
  replace w := w.aloadN (q := 20) (v := (.ref a)) dp120m3_19 rfl rfl rfl
  replace w := w.getF (q := 23) (v := (.int (1 : Int32))) (hw _ (List.mem_of_getElem? (i := 13) rfl)) (S.1.2.1) dp120m3_20 rfl
  obtain ⟨-, w⟩ := (w.icmpEq (q := 69) (q' := 26) (xi := 1) (yi := 1) dp120m3_23 rfl rfl (by decide) (by decide) rfl).resolve_right (fun g => by have hc23 := g.1; revert hc23; decide)
  replace w := w.aloadN (q := 70) (v := (.ref a)) dp120m3_69 rfl rfl rfl
  replace w := w.getF (q := 73) (v := (.ref r)) (hw _ (List.mem_of_getElem? (i := 16) rfl)) (S.1.2.2.2.1) dp120m3_70 rfl
  replace w := w.dconst0 (q := 74) (z := 0) dp120m3_73 rfl rfl
  obtain ⟨_, h20, ⟨rfl, S⟩, w⟩ := w.callS (y := (⟨"java/util/Arrays", "fill", "([DD)V"⟩ : MethodName)) (argsL := [(.ref r), (.double (0 : UInt64))]) (rest := []) (own_fd l Z a0 hw _ n0 S.z0 a r c p   S ) (hw _ (List.mem_of_getElem? (i := 28) rfl)) (hw _ (List.mem_of_getElem? (i := 29) rfl)) (hw _ (List.mem_of_getElem? (i := 30) rfl)) (hw _ (List.mem_of_getElem? (i := 31) rfl)) (by decide) dp120m3_74 (lenOf pd_1 rfl) rfl rfl (by decide) (W := 0) (Nat.le_of_eq rfl) (by decide) (by decide) (by decide) (q := 77) rfl
  replace w := w [] rfl
  replace w := w.aloadN (q := 78) (v := (.ref a)) dp120m3_77 rfl rfl rfl
  replace w := w.getF (q := 81) (v := (.ref c)) (hw _ (List.mem_of_getElem? (i := 19) rfl)) (S.1.2.2.2.2.1) dp120m3_78 rfl
  replace w := w.iconst (q := 82) (z := (0 : Int32)) dp120m3_81 (by decide) rfl
  obtain ⟨_, h21, ⟨rfl, S⟩, w⟩ := w.callS (y := (⟨"java/util/Arrays", "fill", "([II)V"⟩ : MethodName)) (argsL := [(.ref c), (.int (0 : Int32))]) (rest := []) (own_fi l Z a0 hw _ n0 S.z0 a r c p   S ) (hw _ (List.mem_of_getElem? (i := 32) rfl)) (hw _ (List.mem_of_getElem? (i := 33) rfl)) (hw _ (List.mem_of_getElem? (i := 30) rfl)) (hw _ (List.mem_of_getElem? (i := 34) rfl)) (by decide) dp120m3_82 (lenOf pd_2 rfl) rfl rfl (by decide) (W := 0) (Nat.le_of_eq rfl) (by decide) (by decide) (by decide) (q := 85) rfl
  replace w := w [] rfl
  replace w := w.aloadN (q := 86) (v := (.ref a)) dp120m3_85 rfl rfl rfl
  replace w := w.iconst (q := 87) (z := (0 : Int32)) dp120m3_86 (by decide) rfl
  obtain ⟨h22, W23, w⟩ := w.putF (q := 90) (C := "com/example/lucky_fork/luckyfork/model/GroupSums") (hw _ (List.mem_of_getElem? (i := 35) rfl)) (S.1.2.2.2.2.2.2.1) (S.1.1) (Or.inl (hw _ (List.mem_of_getElem? (i := 36) rfl))) (hw _ (List.mem_of_getElem? (i := 5) rfl)) (ty := .int) (by decide) rfl rfl dp120m3_87 (S.2.2.2.2.1.1) rfl
  replace S := S.put_pendingCount hw W23
  replace w := w.aloadN (q := 91) (v := (.ref a)) dp120m3_90 rfl rfl rfl
  replace w := w.iconst (q := 92) (z := (0 : Int32)) dp120m3_91 (by decide) rfl
  obtain ⟨h24, W25, w⟩ := w.putF (q := 95) (C := "com/example/lucky_fork/luckyfork/model/GroupSums") (hw _ (List.mem_of_getElem? (i := 37) rfl)) (S.1.2.2.2.2.2.2.2.1) (S.1.1) (Or.inl (hw _ (List.mem_of_getElem? (i := 38) rfl))) (hw _ (List.mem_of_getElem? (i := 5) rfl)) (ty := .boolean) (by decide) (by decide) (by decide) dp120m3_92 (S.2.2.2.2.1.1) rfl
  replace S := S.put_rebuild hw W25
  exact w.retV dp120m3_95 ⟨rfl, S⟩ (by decide) (by decide)
set_option maxRecDepth 65536 in
set_option maxHeartbeats 40000000 in
theorem own_clear_2 (l : Launch) (Z : State) (a0 : Array Value) (hw : ∀ d ∈ tables_1, d.before a0 Z = true) (h0 : Heap) (n0 : Nat) (Z0 : n0 ≤ h0.size) (a r c p : Nat) (S : Gt Z h0 n0 a r c p (1 : Int32) (0 : Int32) (0 : Int32) (0 : Int32) (0 : Int32) [(.double (0 : UInt64)), (.double (0 : UInt64))] [(.int (0 : Int32)), (.int (0 : Int32))] [(.int (0 : Int32)), (.int (0 : Int32)), (.int (0 : Int32)), (.int (0 : Int32)), (.int (0 : Int32)), (.int (0 : Int32)), (.int (0 : Int32)), (.int (0 : Int32))]) :
    Met l Z (⟨"com/example/lucky_fork/luckyfork/model/GroupSums", "clear", "(I)V"⟩ : MethodName) prog_120_method_3_code 3 none ({ frames := 2, cells := 2, slots := 8, locals := 27 } : Room) n0 #[(.ref a), (.int (2 : Int32))] h0 (fun v h => v = none ∧ ∃ r1 c1, Gt Z h n0 a r1 c1 p (2 : Int32) (1 : Int32) (0 : Int32) (0 : Int32) (0 : Int32) [(.double (0 : UInt64)), (.double (0 : UInt64)), (.double (0 : UInt64)), (.double (0 : UInt64))] [(.int (0 : Int32)), (.int (0 : Int32)), (.int (0 : Int32)), (.int (0 : Int32))] [(.int (0 : Int32)), (.int (0 : Int32)), (.int (0 : Int32)), (.int (0 : Int32)), (.int (0 : Int32)), (.int (0 : Int32)), (.int (0 : Int32)), (.int (0 : Int32))]) := by
  refine Met.of (Ls := #[.val (.ref a), .val (.int (2 : Int32)), .unset]) (plainFor_of_name pn_0) (fun m => by first | (simp [entryFrame, mkF, argsToLocals, Value.category, maxLocals]; done) | rfl) (fun κ w => ?_)
  replace w : Wk κ l Z "com/example/lucky_fork/luckyfork/model/GroupSums" "clear" prog_120_method_3_code 3 none ({ frames := 2, cells := 2, slots := 8, locals := 27 } : Room) n0 h0 0 0 0 #[.val (.ref a), .val (.int (2 : Int32)), .unset] [] := w
  replace w := w.iloadN (q := 1) (v := (2 : Int32)) dp120m3_0 rfl rfl
  replace w := w.iconst (q := 2) (z := (1 : Int32)) dp120m3_1 (by decide) rfl
  obtain ⟨-, w⟩ := (w.icmpGt (q := 9) (q' := 5) (xi := 2) (yi := 1) dp120m3_2 rfl rfl (by decide) (by decide) rfl).resolve_right (fun g => by have hc2 := g.1; revert hc2; decide)
  replace w := w.iloadN (q := 10) (v := (2 : Int32)) dp120m3_9 rfl rfl
  replace w := w.iconst (q := 11) (z := (1 : Int32)) dp120m3_10 (by decide) rfl
  replace w := w.isub (q := 12) (z := (1 : Int32)) dp120m3_11 (by decide) rfl
  obtain ⟨_, _, ⟨eh, rfl⟩, w⟩ := w.callS (y := (⟨"java/lang/Integer", "highestOneBit", "(I)I"⟩ : MethodName)) (argsL := [(.int (1 : Int32))]) (rest := []) (own_hob_1 l Z a0 hw _ n0 S.z0) (hw _ (List.mem_of_getElem? (i := 56) rfl)) (hw _ (List.mem_of_getElem? (i := 57) rfl)) (hw _ (List.mem_of_getElem? (i := 58) rfl)) (hw _ (List.mem_of_getElem? (i := 59) rfl)) (by decide) dp120m3_12 (lenOf pd_0 rfl) rfl rfl (by decide) (W := 0) (Nat.le_of_eq rfl) (by decide) (by decide) (by decide) (q := 15) rfl
  rw [eh] at w
  replace w := w [(.int (1 : Int32))] rfl
  replace w := w.iconst (q := 16) (z := (1 : Int32)) dp120m3_15 (by decide) rfl
  replace w := w.ishl (q := 17) (z := (2 : Int32)) dp120m3_16 (by decide) rfl
  replace w := w.istoreN (q := 18) (l' := #[.val (.ref a), .val (.int (2 : Int32)), .val (.int (2 : Int32))]) dp120m3_17 rfl rfl
  replace w := w.iloadN (q := 19) (v := (2 : Int32)) dp120m3_18 rfl rfl
  replace w := w.aloadN (q := 20) (v := (.ref a)) dp120m3_19 rfl rfl rfl
  replace w := w.getF (q := 23) (v := (.int (1 : Int32))) (hw _ (List.mem_of_getElem? (i := 13) rfl)) (S.1.2.1) dp120m3_20 rfl
  obtain ⟨-, w⟩ := (w.icmpEq (q := 69) (q' := 26) (xi := 2) (yi := 1) dp120m3_23 rfl rfl (by decide) (by decide) rfl).resolve_left (fun g => by have hc23 := g.1; revert hc23; decide)
  replace w := w.aloadN (q := 27) (v := (.ref a)) dp120m3_26 rfl rfl rfl
  replace w := w.iloadN (q := 28) (v := (2 : Int32)) dp120m3_27 rfl rfl
  obtain ⟨h26, W27, w⟩ := w.putF (q := 31) (C := "com/example/lucky_fork/luckyfork/model/GroupSums") (hw _ (List.mem_of_getElem? (i := 13) rfl)) (S.1.2.1) (S.1.1) (Or.inl (hw _ (List.mem_of_getElem? (i := 14) rfl))) (hw _ (List.mem_of_getElem? (i := 5) rfl)) (ty := .int) (by decide) rfl rfl dp120m3_28 (S.2.2.2.2.1.1) rfl
  replace S := S.put_leaves hw W27
  replace w := w.aloadN (q := 32) (v := (.ref a)) dp120m3_31 rfl rfl rfl
  replace w := w.aloadN (q := 33) (v := (.ref a)) dp120m3_32 rfl rfl rfl
  replace w := w.getF (q := 36) (v := (.int (2 : Int32))) (hw _ (List.mem_of_getElem? (i := 13) rfl)) (S.1.2.1) dp120m3_33 rfl
  obtain ⟨_, _, ⟨eh, rfl⟩, w⟩ := w.callS (y := (⟨"java/lang/Integer", "numberOfTrailingZeros", "(I)I"⟩ : MethodName)) (argsL := [(.int (2 : Int32))]) (rest := [(.ref a)]) (own_ntz_2 l Z a0 hw _ n0 S.z0) (hw _ (List.mem_of_getElem? (i := 65) rfl)) (hw _ (List.mem_of_getElem? (i := 66) rfl)) (hw _ (List.mem_of_getElem? (i := 58) rfl)) (hw _ (List.mem_of_getElem? (i := 67) rfl)) (by decide) dp120m3_36 (lenOf pd_0 rfl) rfl rfl (by decide) (W := 1) (Nat.le_of_eq rfl) (by decide) (by decide) (by decide) (q := 39) rfl
  rw [eh] at w
  replace w := w [(.int (1 : Int32)), (.ref a)] rfl
  obtain ⟨h28, W29, w⟩ := w.putF (q := 42) (C := "com/example/lucky_fork/luckyfork/model/GroupSums") (hw _ (List.mem_of_getElem? (i := 44) rfl)) (S.1.2.2.1) (S.1.1) (Or.inl (hw _ (List.mem_of_getElem? (i := 45) rfl))) (hw _ (List.mem_of_getElem? (i := 5) rfl)) (ty := .int) (by decide) rfl rfl dp120m3_39 (S.2.2.2.2.1.1) rfl
  replace S := S.put_depth hw W29
  replace w := w.aloadN (q := 43) (v := (.ref a)) dp120m3_42 rfl rfl rfl
  replace w := w.iconst (q := 44) (z := (2 : Int32)) dp120m3_43 (by decide) rfl
  replace w := w.aloadN (q := 45) (v := (.ref a)) dp120m3_44 rfl rfl rfl
  replace w := w.getF (q := 48) (v := (.int (2 : Int32))) (hw _ (List.mem_of_getElem? (i := 13) rfl)) (S.1.2.1) dp120m3_45 rfl
  replace w := w.imul (q := 49) (z := (4 : Int32)) dp120m3_48 (by decide) rfl
  obtain ⟨h30, r1, cr1, er1, Er1, Ar1, w⟩ := w.newP (q := 51) (cap := 4) (ty := .double) (hw _ (List.mem_of_getElem? (i := 15) rfl)) rfl dp120m3_49 (by decide) (by decide) (by decide) (by decide) (by decide) rfl
  have lt_r1 : a < r1 := by rw [er1]; exact S.1.lt
  have lt_p : p < r1 := by rw [er1]; exact S.2.2.2.1.lt
  have S2 := S.1.ext Er1
  have Fp := S.2.2.2.1.ext Er1
  have gep := S.2.2.2.2.1
  have nep := S.2.2.2.2.2
  have Fr : Arl Z h30 r1 .double [.double 0, .double 0, .double 0, .double 0] := Arl.new Ar1 rfl
  obtain ⟨h31, W32, w⟩ := w.putF (q := 54) (C := "com/example/lucky_fork/luckyfork/model/GroupSums") (hw _ (List.mem_of_getElem? (i := 16) rfl)) (S2.2.2.2.1) (S2.1) (Or.inl (hw _ (List.mem_of_getElem? (i := 17) rfl))) (hw _ (List.mem_of_getElem? (i := 5) rfl)) (ty := (.array .double)) (by decide) rfl rfl dp120m3_51 (gep.1) rfl
  replace S2 := S2.put_rates hw W32
  replace Fp := Fp.far W32 (by omega)
  replace Fr := Fr.far W32 (by omega)
  replace w := w.aloadN (q := 55) (v := (.ref a)) dp120m3_54 rfl rfl rfl
  replace w := w.iconst (q := 56) (z := (2 : Int32)) dp120m3_55 (by decide) rfl
  replace w := w.aloadN (q := 57) (v := (.ref a)) dp120m3_56 rfl rfl rfl
  replace w := w.getF (q := 60) (v := (.int (2 : Int32))) (hw _ (List.mem_of_getElem? (i := 13) rfl)) (S2.2.1) dp120m3_57 rfl
  replace w := w.imul (q := 61) (z := (4 : Int32)) dp120m3_60 (by decide) rfl
  obtain ⟨h33, c1, cc1, ec1, Ec1, Ac1, w⟩ := w.newP (q := 63) (cap := 4) (ty := .int) (hw _ (List.mem_of_getElem? (i := 18) rfl)) rfl dp120m3_61 (by decide) (by decide) (by decide) (by decide) (by decide) rfl
  have lt_c1 : a < c1 := by rw [ec1]; exact S2.lt
  have lt_p1 : p < c1 := by rw [ec1]; exact Fp.lt
  have lt_rc : r1 < c1 := by rw [ec1]; exact Fr.lt
  replace S2 := S2.ext Ec1
  replace Fp := Fp.ext Ec1
  replace Fr := Fr.ext Ec1
  have Fc : Arl Z h33 c1 .int [.int 0, .int 0, .int 0, .int 0] := Arl.new Ac1 rfl
  obtain ⟨h34, W35, w⟩ := w.putF (q := 66) (C := "com/example/lucky_fork/luckyfork/model/GroupSums") (hw _ (List.mem_of_getElem? (i := 19) rfl)) (S2.2.2.2.2.1) (S2.1) (Or.inl (hw _ (List.mem_of_getElem? (i := 20) rfl))) (hw _ (List.mem_of_getElem? (i := 5) rfl)) (ty := (.array .int)) (by decide) rfl rfl dp120m3_63 (gep.1) rfl
  replace S2 := S2.put_counts hw W35
  replace Fp := Fp.far W35 (by omega)
  replace Fr := Fr.far W35 (by omega)
  replace Fc := Fc.far W35 (by omega)
  have S3 : Gt Z h34 n0 a r1 c1 p (2 : Int32) (1 : Int32) (0 : Int32) (0 : Int32) (0 : Int32) [(.double (0 : UInt64)), (.double (0 : UInt64)), (.double (0 : UInt64)), (.double (0 : UInt64))] [(.int (0 : Int32)), (.int (0 : Int32)), (.int (0 : Int32)), (.int (0 : Int32))] [(.int (0 : Int32)), (.int (0 : Int32)), (.int (0 : Int32)), (.int (0 : Int32)), (.int (0 : Int32)), (.int (0 : Int32)), (.int (0 : Int32)), (.int (0 : Int32))] := ⟨S2, Fr, Fc, Fp, ⟨gep.1, by omega, by omega, gep.2.2.2⟩, by omega, by omega, nep.2.2.1, by omega, by omega, by omega⟩
  clear S
  have S := S3
  replace w := w.goto (q := 85) dp120m3_66 (by decide) (by decide)
  replace w := w.aloadN (q := 86) (v := (.ref a)) dp120m3_85 rfl rfl rfl
  replace w := w.iconst (q := 87) (z := (0 : Int32)) dp120m3_86 (by decide) rfl
  obtain ⟨h36, W37, w⟩ := w.putF (q := 90) (C := "com/example/lucky_fork/luckyfork/model/GroupSums") (hw _ (List.mem_of_getElem? (i := 35) rfl)) (S.1.2.2.2.2.2.2.1) (S.1.1) (Or.inl (hw _ (List.mem_of_getElem? (i := 36) rfl))) (hw _ (List.mem_of_getElem? (i := 5) rfl)) (ty := .int) (by decide) rfl rfl dp120m3_87 (S.2.2.2.2.1.1) rfl
  replace S := S.put_pendingCount hw W37
  replace w := w.aloadN (q := 91) (v := (.ref a)) dp120m3_90 rfl rfl rfl
  replace w := w.iconst (q := 92) (z := (0 : Int32)) dp120m3_91 (by decide) rfl
  obtain ⟨h38, W39, w⟩ := w.putF (q := 95) (C := "com/example/lucky_fork/luckyfork/model/GroupSums") (hw _ (List.mem_of_getElem? (i := 37) rfl)) (S.1.2.2.2.2.2.2.2.1) (S.1.1) (Or.inl (hw _ (List.mem_of_getElem? (i := 38) rfl))) (hw _ (List.mem_of_getElem? (i := 5) rfl)) (ty := .boolean) (by decide) (by decide) (by decide) dp120m3_92 (S.2.2.2.2.1.1) rfl
  replace S := S.put_rebuild hw W39
  exact w.retV dp120m3_95 ⟨rfl, r1, c1, S⟩ (by decide) (by decide)
set_option maxRecDepth 65536 in
set_option maxHeartbeats 40000000 in
theorem own_clear_3 (l : Launch) (Z : State) (a0 : Array Value) (hw : ∀ d ∈ tables_1, d.before a0 Z = true) (h0 : Heap) (n0 : Nat) (Z0 : n0 ≤ h0.size) (a r c p : Nat) (S : Gt Z h0 n0 a r c p (1 : Int32) (0 : Int32) (0 : Int32) (0 : Int32) (0 : Int32) [(.double (0 : UInt64)), (.double (0 : UInt64))] [(.int (0 : Int32)), (.int (0 : Int32))] [(.int (0 : Int32)), (.int (0 : Int32)), (.int (0 : Int32)), (.int (0 : Int32)), (.int (0 : Int32)), (.int (0 : Int32)), (.int (0 : Int32)), (.int (0 : Int32))]) :
    Met l Z (⟨"com/example/lucky_fork/luckyfork/model/GroupSums", "clear", "(I)V"⟩ : MethodName) prog_120_method_3_code 3 none ({ frames := 2, cells := 2, slots := 16, locals := 27 } : Room) n0 #[(.ref a), (.int (3 : Int32))] h0 (fun v h => v = none ∧ ∃ r1 c1, Gt Z h n0 a r1 c1 p (4 : Int32) (2 : Int32) (0 : Int32) (0 : Int32) (0 : Int32) [(.double (0 : UInt64)), (.double (0 : UInt64)), (.double (0 : UInt64)), (.double (0 : UInt64)), (.double (0 : UInt64)), (.double (0 : UInt64)), (.double (0 : UInt64)), (.double (0 : UInt64))] [(.int (0 : Int32)), (.int (0 : Int32)), (.int (0 : Int32)), (.int (0 : Int32)), (.int (0 : Int32)), (.int (0 : Int32)), (.int (0 : Int32)), (.int (0 : Int32))] [(.int (0 : Int32)), (.int (0 : Int32)), (.int (0 : Int32)), (.int (0 : Int32)), (.int (0 : Int32)), (.int (0 : Int32)), (.int (0 : Int32)), (.int (0 : Int32))]) := by
  refine Met.of (Ls := #[.val (.ref a), .val (.int (3 : Int32)), .unset]) (plainFor_of_name pn_0) (fun m => by first | (simp [entryFrame, mkF, argsToLocals, Value.category, maxLocals]; done) | rfl) (fun κ w => ?_)
  replace w : Wk κ l Z "com/example/lucky_fork/luckyfork/model/GroupSums" "clear" prog_120_method_3_code 3 none ({ frames := 2, cells := 2, slots := 16, locals := 27 } : Room) n0 h0 0 0 0 #[.val (.ref a), .val (.int (3 : Int32)), .unset] [] := w
  replace w := w.iloadN (q := 1) (v := (3 : Int32)) dp120m3_0 rfl rfl
  replace w := w.iconst (q := 2) (z := (1 : Int32)) dp120m3_1 (by decide) rfl
  obtain ⟨-, w⟩ := (w.icmpGt (q := 9) (q' := 5) (xi := 3) (yi := 1) dp120m3_2 rfl rfl (by decide) (by decide) rfl).resolve_right (fun g => by have hc2 := g.1; revert hc2; decide)
  replace w := w.iloadN (q := 10) (v := (3 : Int32)) dp120m3_9 rfl rfl
  replace w := w.iconst (q := 11) (z := (1 : Int32)) dp120m3_10 (by decide) rfl
  replace w := w.isub (q := 12) (z := (2 : Int32)) dp120m3_11 (by decide) rfl
  obtain ⟨_, _, ⟨eh, rfl⟩, w⟩ := w.callS (y := (⟨"java/lang/Integer", "highestOneBit", "(I)I"⟩ : MethodName)) (argsL := [(.int (2 : Int32))]) (rest := []) (own_hob_2 l Z a0 hw _ n0 S.z0) (hw _ (List.mem_of_getElem? (i := 56) rfl)) (hw _ (List.mem_of_getElem? (i := 57) rfl)) (hw _ (List.mem_of_getElem? (i := 58) rfl)) (hw _ (List.mem_of_getElem? (i := 59) rfl)) (by decide) dp120m3_12 (lenOf pd_0 rfl) rfl rfl (by decide) (W := 0) (Nat.le_of_eq rfl) (by decide) (by decide) (by decide) (q := 15) rfl
  rw [eh] at w
  replace w := w [(.int (2 : Int32))] rfl
  replace w := w.iconst (q := 16) (z := (1 : Int32)) dp120m3_15 (by decide) rfl
  replace w := w.ishl (q := 17) (z := (4 : Int32)) dp120m3_16 (by decide) rfl
  replace w := w.istoreN (q := 18) (l' := #[.val (.ref a), .val (.int (3 : Int32)), .val (.int (4 : Int32))]) dp120m3_17 rfl rfl
  replace w := w.iloadN (q := 19) (v := (4 : Int32)) dp120m3_18 rfl rfl
  replace w := w.aloadN (q := 20) (v := (.ref a)) dp120m3_19 rfl rfl rfl
  replace w := w.getF (q := 23) (v := (.int (1 : Int32))) (hw _ (List.mem_of_getElem? (i := 13) rfl)) (S.1.2.1) dp120m3_20 rfl
  obtain ⟨-, w⟩ := (w.icmpEq (q := 69) (q' := 26) (xi := 4) (yi := 1) dp120m3_23 rfl rfl (by decide) (by decide) rfl).resolve_left (fun g => by have hc23 := g.1; revert hc23; decide)
  replace w := w.aloadN (q := 27) (v := (.ref a)) dp120m3_26 rfl rfl rfl
  replace w := w.iloadN (q := 28) (v := (4 : Int32)) dp120m3_27 rfl rfl
  obtain ⟨h40, W41, w⟩ := w.putF (q := 31) (C := "com/example/lucky_fork/luckyfork/model/GroupSums") (hw _ (List.mem_of_getElem? (i := 13) rfl)) (S.1.2.1) (S.1.1) (Or.inl (hw _ (List.mem_of_getElem? (i := 14) rfl))) (hw _ (List.mem_of_getElem? (i := 5) rfl)) (ty := .int) (by decide) rfl rfl dp120m3_28 (S.2.2.2.2.1.1) rfl
  replace S := S.put_leaves hw W41
  replace w := w.aloadN (q := 32) (v := (.ref a)) dp120m3_31 rfl rfl rfl
  replace w := w.aloadN (q := 33) (v := (.ref a)) dp120m3_32 rfl rfl rfl
  replace w := w.getF (q := 36) (v := (.int (4 : Int32))) (hw _ (List.mem_of_getElem? (i := 13) rfl)) (S.1.2.1) dp120m3_33 rfl
  obtain ⟨_, _, ⟨eh, rfl⟩, w⟩ := w.callS (y := (⟨"java/lang/Integer", "numberOfTrailingZeros", "(I)I"⟩ : MethodName)) (argsL := [(.int (4 : Int32))]) (rest := [(.ref a)]) (own_ntz_4 l Z a0 hw _ n0 S.z0) (hw _ (List.mem_of_getElem? (i := 65) rfl)) (hw _ (List.mem_of_getElem? (i := 66) rfl)) (hw _ (List.mem_of_getElem? (i := 58) rfl)) (hw _ (List.mem_of_getElem? (i := 67) rfl)) (by decide) dp120m3_36 (lenOf pd_0 rfl) rfl rfl (by decide) (W := 1) (Nat.le_of_eq rfl) (by decide) (by decide) (by decide) (q := 39) rfl
  rw [eh] at w
  replace w := w [(.int (2 : Int32)), (.ref a)] rfl
  obtain ⟨h42, W43, w⟩ := w.putF (q := 42) (C := "com/example/lucky_fork/luckyfork/model/GroupSums") (hw _ (List.mem_of_getElem? (i := 44) rfl)) (S.1.2.2.1) (S.1.1) (Or.inl (hw _ (List.mem_of_getElem? (i := 45) rfl))) (hw _ (List.mem_of_getElem? (i := 5) rfl)) (ty := .int) (by decide) rfl rfl dp120m3_39 (S.2.2.2.2.1.1) rfl
  replace S := S.put_depth hw W43
  replace w := w.aloadN (q := 43) (v := (.ref a)) dp120m3_42 rfl rfl rfl
  replace w := w.iconst (q := 44) (z := (2 : Int32)) dp120m3_43 (by decide) rfl
  replace w := w.aloadN (q := 45) (v := (.ref a)) dp120m3_44 rfl rfl rfl
  replace w := w.getF (q := 48) (v := (.int (4 : Int32))) (hw _ (List.mem_of_getElem? (i := 13) rfl)) (S.1.2.1) dp120m3_45 rfl
  replace w := w.imul (q := 49) (z := (8 : Int32)) dp120m3_48 (by decide) rfl
  obtain ⟨h44, r1, cr1, er1, Er1, Ar1, w⟩ := w.newP (q := 51) (cap := 8) (ty := .double) (hw _ (List.mem_of_getElem? (i := 15) rfl)) rfl dp120m3_49 (by decide) (by decide) (by decide) (by decide) (by decide) rfl
  have lt_r1 : a < r1 := by rw [er1]; exact S.1.lt
  have lt_p : p < r1 := by rw [er1]; exact S.2.2.2.1.lt
  have S2 := S.1.ext Er1
  have Fp := S.2.2.2.1.ext Er1
  have gep := S.2.2.2.2.1
  have nep := S.2.2.2.2.2
  have Fr : Arl Z h44 r1 .double [.double 0, .double 0, .double 0, .double 0, .double 0, .double 0, .double 0, .double 0] := Arl.new Ar1 rfl
  obtain ⟨h45, W46, w⟩ := w.putF (q := 54) (C := "com/example/lucky_fork/luckyfork/model/GroupSums") (hw _ (List.mem_of_getElem? (i := 16) rfl)) (S2.2.2.2.1) (S2.1) (Or.inl (hw _ (List.mem_of_getElem? (i := 17) rfl))) (hw _ (List.mem_of_getElem? (i := 5) rfl)) (ty := (.array .double)) (by decide) rfl rfl dp120m3_51 (gep.1) rfl
  replace S2 := S2.put_rates hw W46
  replace Fp := Fp.far W46 (by omega)
  replace Fr := Fr.far W46 (by omega)
  replace w := w.aloadN (q := 55) (v := (.ref a)) dp120m3_54 rfl rfl rfl
  replace w := w.iconst (q := 56) (z := (2 : Int32)) dp120m3_55 (by decide) rfl
  replace w := w.aloadN (q := 57) (v := (.ref a)) dp120m3_56 rfl rfl rfl
  replace w := w.getF (q := 60) (v := (.int (4 : Int32))) (hw _ (List.mem_of_getElem? (i := 13) rfl)) (S2.2.1) dp120m3_57 rfl
  replace w := w.imul (q := 61) (z := (8 : Int32)) dp120m3_60 (by decide) rfl
  obtain ⟨h47, c1, cc1, ec1, Ec1, Ac1, w⟩ := w.newP (q := 63) (cap := 8) (ty := .int) (hw _ (List.mem_of_getElem? (i := 18) rfl)) rfl dp120m3_61 (by decide) (by decide) (by decide) (by decide) (by decide) rfl
  have lt_c1 : a < c1 := by rw [ec1]; exact S2.lt
  have lt_p1 : p < c1 := by rw [ec1]; exact Fp.lt
  have lt_rc : r1 < c1 := by rw [ec1]; exact Fr.lt
  replace S2 := S2.ext Ec1
  replace Fp := Fp.ext Ec1
  replace Fr := Fr.ext Ec1
  have Fc : Arl Z h47 c1 .int [.int 0, .int 0, .int 0, .int 0, .int 0, .int 0, .int 0, .int 0] := Arl.new Ac1 rfl
  obtain ⟨h48, W49, w⟩ := w.putF (q := 66) (C := "com/example/lucky_fork/luckyfork/model/GroupSums") (hw _ (List.mem_of_getElem? (i := 19) rfl)) (S2.2.2.2.2.1) (S2.1) (Or.inl (hw _ (List.mem_of_getElem? (i := 20) rfl))) (hw _ (List.mem_of_getElem? (i := 5) rfl)) (ty := (.array .int)) (by decide) rfl rfl dp120m3_63 (gep.1) rfl
  replace S2 := S2.put_counts hw W49
  replace Fp := Fp.far W49 (by omega)
  replace Fr := Fr.far W49 (by omega)
  replace Fc := Fc.far W49 (by omega)
  have S3 : Gt Z h48 n0 a r1 c1 p (4 : Int32) (2 : Int32) (0 : Int32) (0 : Int32) (0 : Int32) [(.double (0 : UInt64)), (.double (0 : UInt64)), (.double (0 : UInt64)), (.double (0 : UInt64)), (.double (0 : UInt64)), (.double (0 : UInt64)), (.double (0 : UInt64)), (.double (0 : UInt64))] [(.int (0 : Int32)), (.int (0 : Int32)), (.int (0 : Int32)), (.int (0 : Int32)), (.int (0 : Int32)), (.int (0 : Int32)), (.int (0 : Int32)), (.int (0 : Int32))] [(.int (0 : Int32)), (.int (0 : Int32)), (.int (0 : Int32)), (.int (0 : Int32)), (.int (0 : Int32)), (.int (0 : Int32)), (.int (0 : Int32)), (.int (0 : Int32))] := ⟨S2, Fr, Fc, Fp, ⟨gep.1, by omega, by omega, gep.2.2.2⟩, by omega, by omega, nep.2.2.1, by omega, by omega, by omega⟩
  clear S
  have S := S3
  replace w := w.goto (q := 85) dp120m3_66 (by decide) (by decide)
  replace w := w.aloadN (q := 86) (v := (.ref a)) dp120m3_85 rfl rfl rfl
  replace w := w.iconst (q := 87) (z := (0 : Int32)) dp120m3_86 (by decide) rfl
  obtain ⟨h50, W51, w⟩ := w.putF (q := 90) (C := "com/example/lucky_fork/luckyfork/model/GroupSums") (hw _ (List.mem_of_getElem? (i := 35) rfl)) (S.1.2.2.2.2.2.2.1) (S.1.1) (Or.inl (hw _ (List.mem_of_getElem? (i := 36) rfl))) (hw _ (List.mem_of_getElem? (i := 5) rfl)) (ty := .int) (by decide) rfl rfl dp120m3_87 (S.2.2.2.2.1.1) rfl
  replace S := S.put_pendingCount hw W51
  replace w := w.aloadN (q := 91) (v := (.ref a)) dp120m3_90 rfl rfl rfl
  replace w := w.iconst (q := 92) (z := (0 : Int32)) dp120m3_91 (by decide) rfl
  obtain ⟨h52, W53, w⟩ := w.putF (q := 95) (C := "com/example/lucky_fork/luckyfork/model/GroupSums") (hw _ (List.mem_of_getElem? (i := 37) rfl)) (S.1.2.2.2.2.2.2.2.1) (S.1.1) (Or.inl (hw _ (List.mem_of_getElem? (i := 38) rfl))) (hw _ (List.mem_of_getElem? (i := 5) rfl)) (ty := .boolean) (by decide) (by decide) (by decide) dp120m3_92 (S.2.2.2.2.1.1) rfl
  replace S := S.put_rebuild hw W53
  exact w.retV dp120m3_95 ⟨rfl, r1, c1, S⟩ (by decide) (by decide)
set_option maxRecDepth 65536 in
set_option maxHeartbeats 40000000 in
theorem own_clear_4 (l : Launch) (Z : State) (a0 : Array Value) (hw : ∀ d ∈ tables_1, d.before a0 Z = true) (h0 : Heap) (n0 : Nat) (Z0 : n0 ≤ h0.size) (a r c p : Nat) (S : Gt Z h0 n0 a r c p (1 : Int32) (0 : Int32) (0 : Int32) (0 : Int32) (0 : Int32) [(.double (0 : UInt64)), (.double (0 : UInt64))] [(.int (0 : Int32)), (.int (0 : Int32))] [(.int (0 : Int32)), (.int (0 : Int32)), (.int (0 : Int32)), (.int (0 : Int32)), (.int (0 : Int32)), (.int (0 : Int32)), (.int (0 : Int32)), (.int (0 : Int32))]) :
    Met l Z (⟨"com/example/lucky_fork/luckyfork/model/GroupSums", "clear", "(I)V"⟩ : MethodName) prog_120_method_3_code 3 none ({ frames := 2, cells := 2, slots := 16, locals := 27 } : Room) n0 #[(.ref a), (.int (4 : Int32))] h0 (fun v h => v = none ∧ ∃ r1 c1, Gt Z h n0 a r1 c1 p (4 : Int32) (2 : Int32) (0 : Int32) (0 : Int32) (0 : Int32) [(.double (0 : UInt64)), (.double (0 : UInt64)), (.double (0 : UInt64)), (.double (0 : UInt64)), (.double (0 : UInt64)), (.double (0 : UInt64)), (.double (0 : UInt64)), (.double (0 : UInt64))] [(.int (0 : Int32)), (.int (0 : Int32)), (.int (0 : Int32)), (.int (0 : Int32)), (.int (0 : Int32)), (.int (0 : Int32)), (.int (0 : Int32)), (.int (0 : Int32))] [(.int (0 : Int32)), (.int (0 : Int32)), (.int (0 : Int32)), (.int (0 : Int32)), (.int (0 : Int32)), (.int (0 : Int32)), (.int (0 : Int32)), (.int (0 : Int32))]) := by
  refine Met.of (Ls := #[.val (.ref a), .val (.int (4 : Int32)), .unset]) (plainFor_of_name pn_0) (fun m => by first | (simp [entryFrame, mkF, argsToLocals, Value.category, maxLocals]; done) | rfl) (fun κ w => ?_)
  replace w : Wk κ l Z "com/example/lucky_fork/luckyfork/model/GroupSums" "clear" prog_120_method_3_code 3 none ({ frames := 2, cells := 2, slots := 16, locals := 27 } : Room) n0 h0 0 0 0 #[.val (.ref a), .val (.int (4 : Int32)), .unset] [] := w
  replace w := w.iloadN (q := 1) (v := (4 : Int32)) dp120m3_0 rfl rfl
  replace w := w.iconst (q := 2) (z := (1 : Int32)) dp120m3_1 (by decide) rfl
  obtain ⟨-, w⟩ := (w.icmpGt (q := 9) (q' := 5) (xi := 4) (yi := 1) dp120m3_2 rfl rfl (by decide) (by decide) rfl).resolve_right (fun g => by have hc2 := g.1; revert hc2; decide)
  replace w := w.iloadN (q := 10) (v := (4 : Int32)) dp120m3_9 rfl rfl
  replace w := w.iconst (q := 11) (z := (1 : Int32)) dp120m3_10 (by decide) rfl
  replace w := w.isub (q := 12) (z := (3 : Int32)) dp120m3_11 (by decide) rfl
  obtain ⟨_, _, ⟨eh, rfl⟩, w⟩ := w.callS (y := (⟨"java/lang/Integer", "highestOneBit", "(I)I"⟩ : MethodName)) (argsL := [(.int (3 : Int32))]) (rest := []) (own_hob_3 l Z a0 hw _ n0 S.z0) (hw _ (List.mem_of_getElem? (i := 56) rfl)) (hw _ (List.mem_of_getElem? (i := 57) rfl)) (hw _ (List.mem_of_getElem? (i := 58) rfl)) (hw _ (List.mem_of_getElem? (i := 59) rfl)) (by decide) dp120m3_12 (lenOf pd_0 rfl) rfl rfl (by decide) (W := 0) (Nat.le_of_eq rfl) (by decide) (by decide) (by decide) (q := 15) rfl
  rw [eh] at w
  replace w := w [(.int (2 : Int32))] rfl
  replace w := w.iconst (q := 16) (z := (1 : Int32)) dp120m3_15 (by decide) rfl
  replace w := w.ishl (q := 17) (z := (4 : Int32)) dp120m3_16 (by decide) rfl
  replace w := w.istoreN (q := 18) (l' := #[.val (.ref a), .val (.int (4 : Int32)), .val (.int (4 : Int32))]) dp120m3_17 rfl rfl
  replace w := w.iloadN (q := 19) (v := (4 : Int32)) dp120m3_18 rfl rfl
  replace w := w.aloadN (q := 20) (v := (.ref a)) dp120m3_19 rfl rfl rfl
  replace w := w.getF (q := 23) (v := (.int (1 : Int32))) (hw _ (List.mem_of_getElem? (i := 13) rfl)) (S.1.2.1) dp120m3_20 rfl
  obtain ⟨-, w⟩ := (w.icmpEq (q := 69) (q' := 26) (xi := 4) (yi := 1) dp120m3_23 rfl rfl (by decide) (by decide) rfl).resolve_left (fun g => by have hc23 := g.1; revert hc23; decide)
  replace w := w.aloadN (q := 27) (v := (.ref a)) dp120m3_26 rfl rfl rfl
  replace w := w.iloadN (q := 28) (v := (4 : Int32)) dp120m3_27 rfl rfl
  obtain ⟨h54, W55, w⟩ := w.putF (q := 31) (C := "com/example/lucky_fork/luckyfork/model/GroupSums") (hw _ (List.mem_of_getElem? (i := 13) rfl)) (S.1.2.1) (S.1.1) (Or.inl (hw _ (List.mem_of_getElem? (i := 14) rfl))) (hw _ (List.mem_of_getElem? (i := 5) rfl)) (ty := .int) (by decide) rfl rfl dp120m3_28 (S.2.2.2.2.1.1) rfl
  replace S := S.put_leaves hw W55
  replace w := w.aloadN (q := 32) (v := (.ref a)) dp120m3_31 rfl rfl rfl
  replace w := w.aloadN (q := 33) (v := (.ref a)) dp120m3_32 rfl rfl rfl
  replace w := w.getF (q := 36) (v := (.int (4 : Int32))) (hw _ (List.mem_of_getElem? (i := 13) rfl)) (S.1.2.1) dp120m3_33 rfl
  obtain ⟨_, _, ⟨eh, rfl⟩, w⟩ := w.callS (y := (⟨"java/lang/Integer", "numberOfTrailingZeros", "(I)I"⟩ : MethodName)) (argsL := [(.int (4 : Int32))]) (rest := [(.ref a)]) (own_ntz_4 l Z a0 hw _ n0 S.z0) (hw _ (List.mem_of_getElem? (i := 65) rfl)) (hw _ (List.mem_of_getElem? (i := 66) rfl)) (hw _ (List.mem_of_getElem? (i := 58) rfl)) (hw _ (List.mem_of_getElem? (i := 67) rfl)) (by decide) dp120m3_36 (lenOf pd_0 rfl) rfl rfl (by decide) (W := 1) (Nat.le_of_eq rfl) (by decide) (by decide) (by decide) (q := 39) rfl
  rw [eh] at w
  replace w := w [(.int (2 : Int32)), (.ref a)] rfl
  obtain ⟨h56, W57, w⟩ := w.putF (q := 42) (C := "com/example/lucky_fork/luckyfork/model/GroupSums") (hw _ (List.mem_of_getElem? (i := 44) rfl)) (S.1.2.2.1) (S.1.1) (Or.inl (hw _ (List.mem_of_getElem? (i := 45) rfl))) (hw _ (List.mem_of_getElem? (i := 5) rfl)) (ty := .int) (by decide) rfl rfl dp120m3_39 (S.2.2.2.2.1.1) rfl
  replace S := S.put_depth hw W57
  replace w := w.aloadN (q := 43) (v := (.ref a)) dp120m3_42 rfl rfl rfl
  replace w := w.iconst (q := 44) (z := (2 : Int32)) dp120m3_43 (by decide) rfl
  replace w := w.aloadN (q := 45) (v := (.ref a)) dp120m3_44 rfl rfl rfl
  replace w := w.getF (q := 48) (v := (.int (4 : Int32))) (hw _ (List.mem_of_getElem? (i := 13) rfl)) (S.1.2.1) dp120m3_45 rfl
  replace w := w.imul (q := 49) (z := (8 : Int32)) dp120m3_48 (by decide) rfl
  obtain ⟨h58, r1, cr1, er1, Er1, Ar1, w⟩ := w.newP (q := 51) (cap := 8) (ty := .double) (hw _ (List.mem_of_getElem? (i := 15) rfl)) rfl dp120m3_49 (by decide) (by decide) (by decide) (by decide) (by decide) rfl
  have lt_r1 : a < r1 := by rw [er1]; exact S.1.lt
  have lt_p : p < r1 := by rw [er1]; exact S.2.2.2.1.lt
  have S2 := S.1.ext Er1
  have Fp := S.2.2.2.1.ext Er1
  have gep := S.2.2.2.2.1
  have nep := S.2.2.2.2.2
  have Fr : Arl Z h58 r1 .double [.double 0, .double 0, .double 0, .double 0, .double 0, .double 0, .double 0, .double 0] := Arl.new Ar1 rfl
  obtain ⟨h59, W60, w⟩ := w.putF (q := 54) (C := "com/example/lucky_fork/luckyfork/model/GroupSums") (hw _ (List.mem_of_getElem? (i := 16) rfl)) (S2.2.2.2.1) (S2.1) (Or.inl (hw _ (List.mem_of_getElem? (i := 17) rfl))) (hw _ (List.mem_of_getElem? (i := 5) rfl)) (ty := (.array .double)) (by decide) rfl rfl dp120m3_51 (gep.1) rfl
  replace S2 := S2.put_rates hw W60
  replace Fp := Fp.far W60 (by omega)
  replace Fr := Fr.far W60 (by omega)
  replace w := w.aloadN (q := 55) (v := (.ref a)) dp120m3_54 rfl rfl rfl
  replace w := w.iconst (q := 56) (z := (2 : Int32)) dp120m3_55 (by decide) rfl
  replace w := w.aloadN (q := 57) (v := (.ref a)) dp120m3_56 rfl rfl rfl
  replace w := w.getF (q := 60) (v := (.int (4 : Int32))) (hw _ (List.mem_of_getElem? (i := 13) rfl)) (S2.2.1) dp120m3_57 rfl
  replace w := w.imul (q := 61) (z := (8 : Int32)) dp120m3_60 (by decide) rfl
  obtain ⟨h61, c1, cc1, ec1, Ec1, Ac1, w⟩ := w.newP (q := 63) (cap := 8) (ty := .int) (hw _ (List.mem_of_getElem? (i := 18) rfl)) rfl dp120m3_61 (by decide) (by decide) (by decide) (by decide) (by decide) rfl
  have lt_c1 : a < c1 := by rw [ec1]; exact S2.lt
  have lt_p1 : p < c1 := by rw [ec1]; exact Fp.lt
  have lt_rc : r1 < c1 := by rw [ec1]; exact Fr.lt
  replace S2 := S2.ext Ec1
  replace Fp := Fp.ext Ec1
  replace Fr := Fr.ext Ec1
  have Fc : Arl Z h61 c1 .int [.int 0, .int 0, .int 0, .int 0, .int 0, .int 0, .int 0, .int 0] := Arl.new Ac1 rfl
  obtain ⟨h62, W63, w⟩ := w.putF (q := 66) (C := "com/example/lucky_fork/luckyfork/model/GroupSums") (hw _ (List.mem_of_getElem? (i := 19) rfl)) (S2.2.2.2.2.1) (S2.1) (Or.inl (hw _ (List.mem_of_getElem? (i := 20) rfl))) (hw _ (List.mem_of_getElem? (i := 5) rfl)) (ty := (.array .int)) (by decide) rfl rfl dp120m3_63 (gep.1) rfl
  replace S2 := S2.put_counts hw W63
  replace Fp := Fp.far W63 (by omega)
  replace Fr := Fr.far W63 (by omega)
  replace Fc := Fc.far W63 (by omega)
  have S3 : Gt Z h62 n0 a r1 c1 p (4 : Int32) (2 : Int32) (0 : Int32) (0 : Int32) (0 : Int32) [(.double (0 : UInt64)), (.double (0 : UInt64)), (.double (0 : UInt64)), (.double (0 : UInt64)), (.double (0 : UInt64)), (.double (0 : UInt64)), (.double (0 : UInt64)), (.double (0 : UInt64))] [(.int (0 : Int32)), (.int (0 : Int32)), (.int (0 : Int32)), (.int (0 : Int32)), (.int (0 : Int32)), (.int (0 : Int32)), (.int (0 : Int32)), (.int (0 : Int32))] [(.int (0 : Int32)), (.int (0 : Int32)), (.int (0 : Int32)), (.int (0 : Int32)), (.int (0 : Int32)), (.int (0 : Int32)), (.int (0 : Int32)), (.int (0 : Int32))] := ⟨S2, Fr, Fc, Fp, ⟨gep.1, by omega, by omega, gep.2.2.2⟩, by omega, by omega, nep.2.2.1, by omega, by omega, by omega⟩
  clear S
  have S := S3
  replace w := w.goto (q := 85) dp120m3_66 (by decide) (by decide)
  replace w := w.aloadN (q := 86) (v := (.ref a)) dp120m3_85 rfl rfl rfl
  replace w := w.iconst (q := 87) (z := (0 : Int32)) dp120m3_86 (by decide) rfl
  obtain ⟨h64, W65, w⟩ := w.putF (q := 90) (C := "com/example/lucky_fork/luckyfork/model/GroupSums") (hw _ (List.mem_of_getElem? (i := 35) rfl)) (S.1.2.2.2.2.2.2.1) (S.1.1) (Or.inl (hw _ (List.mem_of_getElem? (i := 36) rfl))) (hw _ (List.mem_of_getElem? (i := 5) rfl)) (ty := .int) (by decide) rfl rfl dp120m3_87 (S.2.2.2.2.1.1) rfl
  replace S := S.put_pendingCount hw W65
  replace w := w.aloadN (q := 91) (v := (.ref a)) dp120m3_90 rfl rfl rfl
  replace w := w.iconst (q := 92) (z := (0 : Int32)) dp120m3_91 (by decide) rfl
  obtain ⟨h66, W67, w⟩ := w.putF (q := 95) (C := "com/example/lucky_fork/luckyfork/model/GroupSums") (hw _ (List.mem_of_getElem? (i := 37) rfl)) (S.1.2.2.2.2.2.2.2.1) (S.1.1) (Or.inl (hw _ (List.mem_of_getElem? (i := 38) rfl))) (hw _ (List.mem_of_getElem? (i := 5) rfl)) (ty := .boolean) (by decide) (by decide) (by decide) dp120m3_92 (S.2.2.2.2.1.1) rfl
  replace S := S.put_rebuild hw W67
  exact w.retV dp120m3_95 ⟨rfl, r1, c1, S⟩ (by decide) (by decide)
set_option maxRecDepth 65536 in
set_option maxHeartbeats 40000000 in
theorem own_au_2_1 (l : Launch) (Z : State) (a0 : Array Value) (hw : ∀ d ∈ tables_1, d.before a0 Z = true) (h0 : Heap) (n0 : Nat) (Z0 : n0 ≤ h0.size) (a r c p : Nat) (lv : Int32) (dp : Int32) (pn : Int32) (rb : Int32) (cb : Int32) (y0 : Int32) (y1 : Int32) (y2 : Int32) (y3 : Int32) (p0 : Int32) (p1 : Int32) (p2 : Int32) (p3 : Int32) (p4 : Int32) (p5 : Int32) (p6 : Int32) (p7 : Int32) (S : Gt Z h0 n0 a r c p lv dp pn rb cb [(.double (0 : UInt64)), (.double (0 : UInt64)), (.double (0 : UInt64)), (.double (0 : UInt64))] [(.int y0), (.int y1), (.int y2), (.int y3)] [(.int p0), (.int p1), (.int p2), (.int p3), (.int p4), (.int p5), (.int p6), (.int p7)]) :
    Met l Z (⟨"com/example/lucky_fork/luckyfork/model/GroupSums", "addUp", "(I)V"⟩ : MethodName) prog_120_method_12_code 2 none ({ frames := 0, cells := 0, slots := 0, locals := 0 } : Room) n0 #[(.ref a), (.int (1 : Int32))] h0 (fun v h => v = none ∧ Gt Z h n0 a r c p lv dp pn rb cb [(.double (0 : UInt64)), (.double (0 : UInt64)), (.double (0 : UInt64)), (.double (0 : UInt64))] [(.int y0), (.int (y2 + y3)), (.int y2), (.int y3)] [(.int p0), (.int p1), (.int p2), (.int p3), (.int p4), (.int p5), (.int p6), (.int p7)]) := by
  refine Met.of (Ls := #[.val (.ref a), .val (.int (1 : Int32))]) (plainFor_of_name pn_0) (fun m => by first | (simp [entryFrame, mkF, argsToLocals, Value.category, maxLocals]; done) | rfl) (fun κ w => ?_)
  replace w : Wk κ l Z "com/example/lucky_fork/luckyfork/model/GroupSums" "addUp" prog_120_method_12_code 2 none ({ frames := 0, cells := 0, slots := 0, locals := 0 } : Room) n0 h0 0 0 0 #[.val (.ref a), .val (.int (1 : Int32))] [] := w
  replace w := w.aloadN (q := 1) (v := (.ref a)) dp120m12_0 rfl rfl rfl
  replace w := w.getF (q := 4) (v := (.ref r)) (hw _ (List.mem_of_getElem? (i := 16) rfl)) (S.1.2.2.2.1) dp120m12_1 rfl
  replace w := w.iloadN (q := 5) (v := (1 : Int32)) dp120m12_4 rfl rfl
  replace w := w.aloadN (q := 6) (v := (.ref a)) dp120m12_5 rfl rfl rfl
  replace w := w.getF (q := 9) (v := (.ref r)) (hw _ (List.mem_of_getElem? (i := 16) rfl)) (S.1.2.2.2.1) dp120m12_6 rfl
  replace w := w.iconst (q := 10) (z := (2 : Int32)) dp120m12_9 (by decide) rfl
  replace w := w.iloadN (q := 11) (v := (1 : Int32)) dp120m12_10 rfl rfl
  replace w := w.imul (q := 12) (z := (2 : Int32)) dp120m12_11 (by decide) rfl
  replace w := w.ldDl (q := 13) (v := (.double (0 : UInt64))) (S.2.1) 2 rfl rfl dp120m12_12 rfl
  replace w := w.aloadN (q := 14) (v := (.ref a)) dp120m12_13 rfl rfl rfl
  replace w := w.getF (q := 17) (v := (.ref r)) (hw _ (List.mem_of_getElem? (i := 16) rfl)) (S.1.2.2.2.1) dp120m12_14 rfl
  replace w := w.iconst (q := 18) (z := (2 : Int32)) dp120m12_17 (by decide) rfl
  replace w := w.iloadN (q := 19) (v := (1 : Int32)) dp120m12_18 rfl rfl
  replace w := w.imul (q := 20) (z := (2 : Int32)) dp120m12_19 (by decide) rfl
  replace w := w.iconst (q := 21) (z := (1 : Int32)) dp120m12_20 (by decide) rfl
  replace w := w.iadd (q := 22) (z := (3 : Int32)) dp120m12_21 (by decide) rfl
  replace w := w.ldDl (q := 23) (v := (.double (0 : UInt64))) (S.2.1) 3 rfl rfl dp120m12_22 rfl
  replace w := w.dadd (q := 24) (z := 0) dp120m12_23 own_n00 own_d00 rfl
  obtain ⟨h68, W69, w⟩ := w.stDl (q := 25) (S.2.1) 1 rfl (ltl rfl) (S.2.2.2.2.1.2.1) dp120m12_24 rfl
  replace S := S.setR W69
  replace S : Gt Z h68 n0 a r c p lv dp pn rb cb [(.double (0 : UInt64)), (.double (0 : UInt64)), (.double (0 : UInt64)), (.double (0 : UInt64))] [(.int y0), (.int y1), (.int y2), (.int y3)] [(.int p0), (.int p1), (.int p2), (.int p3), (.int p4), (.int p5), (.int p6), (.int p7)] := S
  replace w := w.aloadN (q := 26) (v := (.ref a)) dp120m12_25 rfl rfl rfl
  replace w := w.getF (q := 29) (v := (.ref c)) (hw _ (List.mem_of_getElem? (i := 19) rfl)) (S.1.2.2.2.2.1) dp120m12_26 rfl
  replace w := w.iloadN (q := 30) (v := (1 : Int32)) dp120m12_29 rfl rfl
  replace w := w.aloadN (q := 31) (v := (.ref a)) dp120m12_30 rfl rfl rfl
  replace w := w.getF (q := 34) (v := (.ref c)) (hw _ (List.mem_of_getElem? (i := 19) rfl)) (S.1.2.2.2.2.1) dp120m12_31 rfl
  replace w := w.iconst (q := 35) (z := (2 : Int32)) dp120m12_34 (by decide) rfl
  replace w := w.iloadN (q := 36) (v := (1 : Int32)) dp120m12_35 rfl rfl
  replace w := w.imul (q := 37) (z := (2 : Int32)) dp120m12_36 (by decide) rfl
  replace w := w.ldIl (q := 38) (v := (.int y2)) (S.2.2.1) 2 rfl rfl dp120m12_37 rfl
  replace w := w.aloadN (q := 39) (v := (.ref a)) dp120m12_38 rfl rfl rfl
  replace w := w.getF (q := 42) (v := (.ref c)) (hw _ (List.mem_of_getElem? (i := 19) rfl)) (S.1.2.2.2.2.1) dp120m12_39 rfl
  replace w := w.iconst (q := 43) (z := (2 : Int32)) dp120m12_42 (by decide) rfl
  replace w := w.iloadN (q := 44) (v := (1 : Int32)) dp120m12_43 rfl rfl
  replace w := w.imul (q := 45) (z := (2 : Int32)) dp120m12_44 (by decide) rfl
  replace w := w.iconst (q := 46) (z := (1 : Int32)) dp120m12_45 (by decide) rfl
  replace w := w.iadd (q := 47) (z := (3 : Int32)) dp120m12_46 (by decide) rfl
  replace w := w.ldIl (q := 48) (v := (.int y3)) (S.2.2.1) 3 rfl rfl dp120m12_47 rfl
  obtain ⟨z70, hz70⟩ : ∃ z : Int32, y2 + y3 = z := ⟨_, rfl⟩
  replace w := w.iadd (q := 49) dp120m12_48 hz70 rfl
  obtain ⟨h71, W72, w⟩ := w.stIl (q := 50) (S.2.2.1) 1 rfl (ltl rfl) (S.2.2.2.2.1.2.2.1) dp120m12_49 rfl
  replace S := S.setC W72
  replace S : Gt Z h71 n0 a r c p lv dp pn rb cb [(.double (0 : UInt64)), (.double (0 : UInt64)), (.double (0 : UInt64)), (.double (0 : UInt64))] [(.int y0), (.int z70), (.int y2), (.int y3)] [(.int p0), (.int p1), (.int p2), (.int p3), (.int p4), (.int p5), (.int p6), (.int p7)] := S
  exact w.retV dp120m12_50 ⟨rfl, by subst_vars; exact S⟩ (by decide) (by decide)
set_option maxRecDepth 65536 in
set_option maxHeartbeats 40000000 in
theorem own_au_4_1 (l : Launch) (Z : State) (a0 : Array Value) (hw : ∀ d ∈ tables_1, d.before a0 Z = true) (h0 : Heap) (n0 : Nat) (Z0 : n0 ≤ h0.size) (a r c p : Nat) (lv : Int32) (dp : Int32) (pn : Int32) (rb : Int32) (cb : Int32) (y0 : Int32) (y1 : Int32) (y2 : Int32) (y3 : Int32) (y4 : Int32) (y5 : Int32) (y6 : Int32) (y7 : Int32) (p0 : Int32) (p1 : Int32) (p2 : Int32) (p3 : Int32) (p4 : Int32) (p5 : Int32) (p6 : Int32) (p7 : Int32) (S : Gt Z h0 n0 a r c p lv dp pn rb cb [(.double (0 : UInt64)), (.double (0 : UInt64)), (.double (0 : UInt64)), (.double (0 : UInt64)), (.double (0 : UInt64)), (.double (0 : UInt64)), (.double (0 : UInt64)), (.double (0 : UInt64))] [(.int y0), (.int y1), (.int y2), (.int y3), (.int y4), (.int y5), (.int y6), (.int y7)] [(.int p0), (.int p1), (.int p2), (.int p3), (.int p4), (.int p5), (.int p6), (.int p7)]) :
    Met l Z (⟨"com/example/lucky_fork/luckyfork/model/GroupSums", "addUp", "(I)V"⟩ : MethodName) prog_120_method_12_code 2 none ({ frames := 0, cells := 0, slots := 0, locals := 0 } : Room) n0 #[(.ref a), (.int (1 : Int32))] h0 (fun v h => v = none ∧ Gt Z h n0 a r c p lv dp pn rb cb [(.double (0 : UInt64)), (.double (0 : UInt64)), (.double (0 : UInt64)), (.double (0 : UInt64)), (.double (0 : UInt64)), (.double (0 : UInt64)), (.double (0 : UInt64)), (.double (0 : UInt64))] [(.int y0), (.int (y2 + y3)), (.int y2), (.int y3), (.int y4), (.int y5), (.int y6), (.int y7)] [(.int p0), (.int p1), (.int p2), (.int p3), (.int p4), (.int p5), (.int p6), (.int p7)]) := by
  refine Met.of (Ls := #[.val (.ref a), .val (.int (1 : Int32))]) (plainFor_of_name pn_0) (fun m => by first | (simp [entryFrame, mkF, argsToLocals, Value.category, maxLocals]; done) | rfl) (fun κ w => ?_)
  replace w : Wk κ l Z "com/example/lucky_fork/luckyfork/model/GroupSums" "addUp" prog_120_method_12_code 2 none ({ frames := 0, cells := 0, slots := 0, locals := 0 } : Room) n0 h0 0 0 0 #[.val (.ref a), .val (.int (1 : Int32))] [] := w
  replace w := w.aloadN (q := 1) (v := (.ref a)) dp120m12_0 rfl rfl rfl
  replace w := w.getF (q := 4) (v := (.ref r)) (hw _ (List.mem_of_getElem? (i := 16) rfl)) (S.1.2.2.2.1) dp120m12_1 rfl
  replace w := w.iloadN (q := 5) (v := (1 : Int32)) dp120m12_4 rfl rfl
  replace w := w.aloadN (q := 6) (v := (.ref a)) dp120m12_5 rfl rfl rfl
  replace w := w.getF (q := 9) (v := (.ref r)) (hw _ (List.mem_of_getElem? (i := 16) rfl)) (S.1.2.2.2.1) dp120m12_6 rfl
  replace w := w.iconst (q := 10) (z := (2 : Int32)) dp120m12_9 (by decide) rfl
  replace w := w.iloadN (q := 11) (v := (1 : Int32)) dp120m12_10 rfl rfl
  replace w := w.imul (q := 12) (z := (2 : Int32)) dp120m12_11 (by decide) rfl
  replace w := w.ldDl (q := 13) (v := (.double (0 : UInt64))) (S.2.1) 2 rfl rfl dp120m12_12 rfl
  replace w := w.aloadN (q := 14) (v := (.ref a)) dp120m12_13 rfl rfl rfl
  replace w := w.getF (q := 17) (v := (.ref r)) (hw _ (List.mem_of_getElem? (i := 16) rfl)) (S.1.2.2.2.1) dp120m12_14 rfl
  replace w := w.iconst (q := 18) (z := (2 : Int32)) dp120m12_17 (by decide) rfl
  replace w := w.iloadN (q := 19) (v := (1 : Int32)) dp120m12_18 rfl rfl
  replace w := w.imul (q := 20) (z := (2 : Int32)) dp120m12_19 (by decide) rfl
  replace w := w.iconst (q := 21) (z := (1 : Int32)) dp120m12_20 (by decide) rfl
  replace w := w.iadd (q := 22) (z := (3 : Int32)) dp120m12_21 (by decide) rfl
  replace w := w.ldDl (q := 23) (v := (.double (0 : UInt64))) (S.2.1) 3 rfl rfl dp120m12_22 rfl
  replace w := w.dadd (q := 24) (z := 0) dp120m12_23 own_n00 own_d00 rfl
  obtain ⟨h73, W74, w⟩ := w.stDl (q := 25) (S.2.1) 1 rfl (ltl rfl) (S.2.2.2.2.1.2.1) dp120m12_24 rfl
  replace S := S.setR W74
  replace S : Gt Z h73 n0 a r c p lv dp pn rb cb [(.double (0 : UInt64)), (.double (0 : UInt64)), (.double (0 : UInt64)), (.double (0 : UInt64)), (.double (0 : UInt64)), (.double (0 : UInt64)), (.double (0 : UInt64)), (.double (0 : UInt64))] [(.int y0), (.int y1), (.int y2), (.int y3), (.int y4), (.int y5), (.int y6), (.int y7)] [(.int p0), (.int p1), (.int p2), (.int p3), (.int p4), (.int p5), (.int p6), (.int p7)] := S
  replace w := w.aloadN (q := 26) (v := (.ref a)) dp120m12_25 rfl rfl rfl
  replace w := w.getF (q := 29) (v := (.ref c)) (hw _ (List.mem_of_getElem? (i := 19) rfl)) (S.1.2.2.2.2.1) dp120m12_26 rfl
  replace w := w.iloadN (q := 30) (v := (1 : Int32)) dp120m12_29 rfl rfl
  replace w := w.aloadN (q := 31) (v := (.ref a)) dp120m12_30 rfl rfl rfl
  replace w := w.getF (q := 34) (v := (.ref c)) (hw _ (List.mem_of_getElem? (i := 19) rfl)) (S.1.2.2.2.2.1) dp120m12_31 rfl
  replace w := w.iconst (q := 35) (z := (2 : Int32)) dp120m12_34 (by decide) rfl
  replace w := w.iloadN (q := 36) (v := (1 : Int32)) dp120m12_35 rfl rfl
  replace w := w.imul (q := 37) (z := (2 : Int32)) dp120m12_36 (by decide) rfl
  replace w := w.ldIl (q := 38) (v := (.int y2)) (S.2.2.1) 2 rfl rfl dp120m12_37 rfl
  replace w := w.aloadN (q := 39) (v := (.ref a)) dp120m12_38 rfl rfl rfl
  replace w := w.getF (q := 42) (v := (.ref c)) (hw _ (List.mem_of_getElem? (i := 19) rfl)) (S.1.2.2.2.2.1) dp120m12_39 rfl
  replace w := w.iconst (q := 43) (z := (2 : Int32)) dp120m12_42 (by decide) rfl
  replace w := w.iloadN (q := 44) (v := (1 : Int32)) dp120m12_43 rfl rfl
  replace w := w.imul (q := 45) (z := (2 : Int32)) dp120m12_44 (by decide) rfl
  replace w := w.iconst (q := 46) (z := (1 : Int32)) dp120m12_45 (by decide) rfl
  replace w := w.iadd (q := 47) (z := (3 : Int32)) dp120m12_46 (by decide) rfl
  replace w := w.ldIl (q := 48) (v := (.int y3)) (S.2.2.1) 3 rfl rfl dp120m12_47 rfl
  obtain ⟨z75, hz75⟩ : ∃ z : Int32, y2 + y3 = z := ⟨_, rfl⟩
  replace w := w.iadd (q := 49) dp120m12_48 hz75 rfl
  obtain ⟨h76, W77, w⟩ := w.stIl (q := 50) (S.2.2.1) 1 rfl (ltl rfl) (S.2.2.2.2.1.2.2.1) dp120m12_49 rfl
  replace S := S.setC W77
  replace S : Gt Z h76 n0 a r c p lv dp pn rb cb [(.double (0 : UInt64)), (.double (0 : UInt64)), (.double (0 : UInt64)), (.double (0 : UInt64)), (.double (0 : UInt64)), (.double (0 : UInt64)), (.double (0 : UInt64)), (.double (0 : UInt64))] [(.int y0), (.int z75), (.int y2), (.int y3), (.int y4), (.int y5), (.int y6), (.int y7)] [(.int p0), (.int p1), (.int p2), (.int p3), (.int p4), (.int p5), (.int p6), (.int p7)] := S
  exact w.retV dp120m12_50 ⟨rfl, by subst_vars; exact S⟩ (by decide) (by decide)
set_option maxRecDepth 65536 in
set_option maxHeartbeats 40000000 in
theorem own_au_4_2 (l : Launch) (Z : State) (a0 : Array Value) (hw : ∀ d ∈ tables_1, d.before a0 Z = true) (h0 : Heap) (n0 : Nat) (Z0 : n0 ≤ h0.size) (a r c p : Nat) (lv : Int32) (dp : Int32) (pn : Int32) (rb : Int32) (cb : Int32) (y0 : Int32) (y1 : Int32) (y2 : Int32) (y3 : Int32) (y4 : Int32) (y5 : Int32) (y6 : Int32) (y7 : Int32) (p0 : Int32) (p1 : Int32) (p2 : Int32) (p3 : Int32) (p4 : Int32) (p5 : Int32) (p6 : Int32) (p7 : Int32) (S : Gt Z h0 n0 a r c p lv dp pn rb cb [(.double (0 : UInt64)), (.double (0 : UInt64)), (.double (0 : UInt64)), (.double (0 : UInt64)), (.double (0 : UInt64)), (.double (0 : UInt64)), (.double (0 : UInt64)), (.double (0 : UInt64))] [(.int y0), (.int y1), (.int y2), (.int y3), (.int y4), (.int y5), (.int y6), (.int y7)] [(.int p0), (.int p1), (.int p2), (.int p3), (.int p4), (.int p5), (.int p6), (.int p7)]) :
    Met l Z (⟨"com/example/lucky_fork/luckyfork/model/GroupSums", "addUp", "(I)V"⟩ : MethodName) prog_120_method_12_code 2 none ({ frames := 0, cells := 0, slots := 0, locals := 0 } : Room) n0 #[(.ref a), (.int (2 : Int32))] h0 (fun v h => v = none ∧ Gt Z h n0 a r c p lv dp pn rb cb [(.double (0 : UInt64)), (.double (0 : UInt64)), (.double (0 : UInt64)), (.double (0 : UInt64)), (.double (0 : UInt64)), (.double (0 : UInt64)), (.double (0 : UInt64)), (.double (0 : UInt64))] [(.int y0), (.int y1), (.int (y4 + y5)), (.int y3), (.int y4), (.int y5), (.int y6), (.int y7)] [(.int p0), (.int p1), (.int p2), (.int p3), (.int p4), (.int p5), (.int p6), (.int p7)]) := by
  refine Met.of (Ls := #[.val (.ref a), .val (.int (2 : Int32))]) (plainFor_of_name pn_0) (fun m => by first | (simp [entryFrame, mkF, argsToLocals, Value.category, maxLocals]; done) | rfl) (fun κ w => ?_)
  replace w : Wk κ l Z "com/example/lucky_fork/luckyfork/model/GroupSums" "addUp" prog_120_method_12_code 2 none ({ frames := 0, cells := 0, slots := 0, locals := 0 } : Room) n0 h0 0 0 0 #[.val (.ref a), .val (.int (2 : Int32))] [] := w
  replace w := w.aloadN (q := 1) (v := (.ref a)) dp120m12_0 rfl rfl rfl
  replace w := w.getF (q := 4) (v := (.ref r)) (hw _ (List.mem_of_getElem? (i := 16) rfl)) (S.1.2.2.2.1) dp120m12_1 rfl
  replace w := w.iloadN (q := 5) (v := (2 : Int32)) dp120m12_4 rfl rfl
  replace w := w.aloadN (q := 6) (v := (.ref a)) dp120m12_5 rfl rfl rfl
  replace w := w.getF (q := 9) (v := (.ref r)) (hw _ (List.mem_of_getElem? (i := 16) rfl)) (S.1.2.2.2.1) dp120m12_6 rfl
  replace w := w.iconst (q := 10) (z := (2 : Int32)) dp120m12_9 (by decide) rfl
  replace w := w.iloadN (q := 11) (v := (2 : Int32)) dp120m12_10 rfl rfl
  replace w := w.imul (q := 12) (z := (4 : Int32)) dp120m12_11 (by decide) rfl
  replace w := w.ldDl (q := 13) (v := (.double (0 : UInt64))) (S.2.1) 4 rfl rfl dp120m12_12 rfl
  replace w := w.aloadN (q := 14) (v := (.ref a)) dp120m12_13 rfl rfl rfl
  replace w := w.getF (q := 17) (v := (.ref r)) (hw _ (List.mem_of_getElem? (i := 16) rfl)) (S.1.2.2.2.1) dp120m12_14 rfl
  replace w := w.iconst (q := 18) (z := (2 : Int32)) dp120m12_17 (by decide) rfl
  replace w := w.iloadN (q := 19) (v := (2 : Int32)) dp120m12_18 rfl rfl
  replace w := w.imul (q := 20) (z := (4 : Int32)) dp120m12_19 (by decide) rfl
  replace w := w.iconst (q := 21) (z := (1 : Int32)) dp120m12_20 (by decide) rfl
  replace w := w.iadd (q := 22) (z := (5 : Int32)) dp120m12_21 (by decide) rfl
  replace w := w.ldDl (q := 23) (v := (.double (0 : UInt64))) (S.2.1) 5 rfl rfl dp120m12_22 rfl
  replace w := w.dadd (q := 24) (z := 0) dp120m12_23 own_n00 own_d00 rfl
  obtain ⟨h78, W79, w⟩ := w.stDl (q := 25) (S.2.1) 2 rfl (ltl rfl) (S.2.2.2.2.1.2.1) dp120m12_24 rfl
  replace S := S.setR W79
  replace S : Gt Z h78 n0 a r c p lv dp pn rb cb [(.double (0 : UInt64)), (.double (0 : UInt64)), (.double (0 : UInt64)), (.double (0 : UInt64)), (.double (0 : UInt64)), (.double (0 : UInt64)), (.double (0 : UInt64)), (.double (0 : UInt64))] [(.int y0), (.int y1), (.int y2), (.int y3), (.int y4), (.int y5), (.int y6), (.int y7)] [(.int p0), (.int p1), (.int p2), (.int p3), (.int p4), (.int p5), (.int p6), (.int p7)] := S
  replace w := w.aloadN (q := 26) (v := (.ref a)) dp120m12_25 rfl rfl rfl
  replace w := w.getF (q := 29) (v := (.ref c)) (hw _ (List.mem_of_getElem? (i := 19) rfl)) (S.1.2.2.2.2.1) dp120m12_26 rfl
  replace w := w.iloadN (q := 30) (v := (2 : Int32)) dp120m12_29 rfl rfl
  replace w := w.aloadN (q := 31) (v := (.ref a)) dp120m12_30 rfl rfl rfl
  replace w := w.getF (q := 34) (v := (.ref c)) (hw _ (List.mem_of_getElem? (i := 19) rfl)) (S.1.2.2.2.2.1) dp120m12_31 rfl
  replace w := w.iconst (q := 35) (z := (2 : Int32)) dp120m12_34 (by decide) rfl
  replace w := w.iloadN (q := 36) (v := (2 : Int32)) dp120m12_35 rfl rfl
  replace w := w.imul (q := 37) (z := (4 : Int32)) dp120m12_36 (by decide) rfl
  replace w := w.ldIl (q := 38) (v := (.int y4)) (S.2.2.1) 4 rfl rfl dp120m12_37 rfl
  replace w := w.aloadN (q := 39) (v := (.ref a)) dp120m12_38 rfl rfl rfl
  replace w := w.getF (q := 42) (v := (.ref c)) (hw _ (List.mem_of_getElem? (i := 19) rfl)) (S.1.2.2.2.2.1) dp120m12_39 rfl
  replace w := w.iconst (q := 43) (z := (2 : Int32)) dp120m12_42 (by decide) rfl
  replace w := w.iloadN (q := 44) (v := (2 : Int32)) dp120m12_43 rfl rfl
  replace w := w.imul (q := 45) (z := (4 : Int32)) dp120m12_44 (by decide) rfl
  replace w := w.iconst (q := 46) (z := (1 : Int32)) dp120m12_45 (by decide) rfl
  replace w := w.iadd (q := 47) (z := (5 : Int32)) dp120m12_46 (by decide) rfl
  replace w := w.ldIl (q := 48) (v := (.int y5)) (S.2.2.1) 5 rfl rfl dp120m12_47 rfl
  obtain ⟨z80, hz80⟩ : ∃ z : Int32, y4 + y5 = z := ⟨_, rfl⟩
  replace w := w.iadd (q := 49) dp120m12_48 hz80 rfl
  obtain ⟨h81, W82, w⟩ := w.stIl (q := 50) (S.2.2.1) 2 rfl (ltl rfl) (S.2.2.2.2.1.2.2.1) dp120m12_49 rfl
  replace S := S.setC W82
  replace S : Gt Z h81 n0 a r c p lv dp pn rb cb [(.double (0 : UInt64)), (.double (0 : UInt64)), (.double (0 : UInt64)), (.double (0 : UInt64)), (.double (0 : UInt64)), (.double (0 : UInt64)), (.double (0 : UInt64)), (.double (0 : UInt64))] [(.int y0), (.int y1), (.int z80), (.int y3), (.int y4), (.int y5), (.int y6), (.int y7)] [(.int p0), (.int p1), (.int p2), (.int p3), (.int p4), (.int p5), (.int p6), (.int p7)] := S
  exact w.retV dp120m12_50 ⟨rfl, by subst_vars; exact S⟩ (by decide) (by decide)
set_option maxRecDepth 65536 in
set_option maxHeartbeats 40000000 in
theorem own_au_4_3 (l : Launch) (Z : State) (a0 : Array Value) (hw : ∀ d ∈ tables_1, d.before a0 Z = true) (h0 : Heap) (n0 : Nat) (Z0 : n0 ≤ h0.size) (a r c p : Nat) (lv : Int32) (dp : Int32) (pn : Int32) (rb : Int32) (cb : Int32) (y0 : Int32) (y1 : Int32) (y2 : Int32) (y3 : Int32) (y4 : Int32) (y5 : Int32) (y6 : Int32) (y7 : Int32) (p0 : Int32) (p1 : Int32) (p2 : Int32) (p3 : Int32) (p4 : Int32) (p5 : Int32) (p6 : Int32) (p7 : Int32) (S : Gt Z h0 n0 a r c p lv dp pn rb cb [(.double (0 : UInt64)), (.double (0 : UInt64)), (.double (0 : UInt64)), (.double (0 : UInt64)), (.double (0 : UInt64)), (.double (0 : UInt64)), (.double (0 : UInt64)), (.double (0 : UInt64))] [(.int y0), (.int y1), (.int y2), (.int y3), (.int y4), (.int y5), (.int y6), (.int y7)] [(.int p0), (.int p1), (.int p2), (.int p3), (.int p4), (.int p5), (.int p6), (.int p7)]) :
    Met l Z (⟨"com/example/lucky_fork/luckyfork/model/GroupSums", "addUp", "(I)V"⟩ : MethodName) prog_120_method_12_code 2 none ({ frames := 0, cells := 0, slots := 0, locals := 0 } : Room) n0 #[(.ref a), (.int (3 : Int32))] h0 (fun v h => v = none ∧ Gt Z h n0 a r c p lv dp pn rb cb [(.double (0 : UInt64)), (.double (0 : UInt64)), (.double (0 : UInt64)), (.double (0 : UInt64)), (.double (0 : UInt64)), (.double (0 : UInt64)), (.double (0 : UInt64)), (.double (0 : UInt64))] [(.int y0), (.int y1), (.int y2), (.int (y6 + y7)), (.int y4), (.int y5), (.int y6), (.int y7)] [(.int p0), (.int p1), (.int p2), (.int p3), (.int p4), (.int p5), (.int p6), (.int p7)]) := by
  refine Met.of (Ls := #[.val (.ref a), .val (.int (3 : Int32))]) (plainFor_of_name pn_0) (fun m => by first | (simp [entryFrame, mkF, argsToLocals, Value.category, maxLocals]; done) | rfl) (fun κ w => ?_)
  replace w : Wk κ l Z "com/example/lucky_fork/luckyfork/model/GroupSums" "addUp" prog_120_method_12_code 2 none ({ frames := 0, cells := 0, slots := 0, locals := 0 } : Room) n0 h0 0 0 0 #[.val (.ref a), .val (.int (3 : Int32))] [] := w
  replace w := w.aloadN (q := 1) (v := (.ref a)) dp120m12_0 rfl rfl rfl
  replace w := w.getF (q := 4) (v := (.ref r)) (hw _ (List.mem_of_getElem? (i := 16) rfl)) (S.1.2.2.2.1) dp120m12_1 rfl
  replace w := w.iloadN (q := 5) (v := (3 : Int32)) dp120m12_4 rfl rfl
  replace w := w.aloadN (q := 6) (v := (.ref a)) dp120m12_5 rfl rfl rfl
  replace w := w.getF (q := 9) (v := (.ref r)) (hw _ (List.mem_of_getElem? (i := 16) rfl)) (S.1.2.2.2.1) dp120m12_6 rfl
  replace w := w.iconst (q := 10) (z := (2 : Int32)) dp120m12_9 (by decide) rfl
  replace w := w.iloadN (q := 11) (v := (3 : Int32)) dp120m12_10 rfl rfl
  replace w := w.imul (q := 12) (z := (6 : Int32)) dp120m12_11 (by decide) rfl
  replace w := w.ldDl (q := 13) (v := (.double (0 : UInt64))) (S.2.1) 6 rfl rfl dp120m12_12 rfl
  replace w := w.aloadN (q := 14) (v := (.ref a)) dp120m12_13 rfl rfl rfl
  replace w := w.getF (q := 17) (v := (.ref r)) (hw _ (List.mem_of_getElem? (i := 16) rfl)) (S.1.2.2.2.1) dp120m12_14 rfl
  replace w := w.iconst (q := 18) (z := (2 : Int32)) dp120m12_17 (by decide) rfl
  replace w := w.iloadN (q := 19) (v := (3 : Int32)) dp120m12_18 rfl rfl
  replace w := w.imul (q := 20) (z := (6 : Int32)) dp120m12_19 (by decide) rfl
  replace w := w.iconst (q := 21) (z := (1 : Int32)) dp120m12_20 (by decide) rfl
  replace w := w.iadd (q := 22) (z := (7 : Int32)) dp120m12_21 (by decide) rfl
  replace w := w.ldDl (q := 23) (v := (.double (0 : UInt64))) (S.2.1) 7 rfl rfl dp120m12_22 rfl
  replace w := w.dadd (q := 24) (z := 0) dp120m12_23 own_n00 own_d00 rfl
  obtain ⟨h83, W84, w⟩ := w.stDl (q := 25) (S.2.1) 3 rfl (ltl rfl) (S.2.2.2.2.1.2.1) dp120m12_24 rfl
  replace S := S.setR W84
  replace S : Gt Z h83 n0 a r c p lv dp pn rb cb [(.double (0 : UInt64)), (.double (0 : UInt64)), (.double (0 : UInt64)), (.double (0 : UInt64)), (.double (0 : UInt64)), (.double (0 : UInt64)), (.double (0 : UInt64)), (.double (0 : UInt64))] [(.int y0), (.int y1), (.int y2), (.int y3), (.int y4), (.int y5), (.int y6), (.int y7)] [(.int p0), (.int p1), (.int p2), (.int p3), (.int p4), (.int p5), (.int p6), (.int p7)] := S
  replace w := w.aloadN (q := 26) (v := (.ref a)) dp120m12_25 rfl rfl rfl
  replace w := w.getF (q := 29) (v := (.ref c)) (hw _ (List.mem_of_getElem? (i := 19) rfl)) (S.1.2.2.2.2.1) dp120m12_26 rfl
  replace w := w.iloadN (q := 30) (v := (3 : Int32)) dp120m12_29 rfl rfl
  replace w := w.aloadN (q := 31) (v := (.ref a)) dp120m12_30 rfl rfl rfl
  replace w := w.getF (q := 34) (v := (.ref c)) (hw _ (List.mem_of_getElem? (i := 19) rfl)) (S.1.2.2.2.2.1) dp120m12_31 rfl
  replace w := w.iconst (q := 35) (z := (2 : Int32)) dp120m12_34 (by decide) rfl
  replace w := w.iloadN (q := 36) (v := (3 : Int32)) dp120m12_35 rfl rfl
  replace w := w.imul (q := 37) (z := (6 : Int32)) dp120m12_36 (by decide) rfl
  replace w := w.ldIl (q := 38) (v := (.int y6)) (S.2.2.1) 6 rfl rfl dp120m12_37 rfl
  replace w := w.aloadN (q := 39) (v := (.ref a)) dp120m12_38 rfl rfl rfl
  replace w := w.getF (q := 42) (v := (.ref c)) (hw _ (List.mem_of_getElem? (i := 19) rfl)) (S.1.2.2.2.2.1) dp120m12_39 rfl
  replace w := w.iconst (q := 43) (z := (2 : Int32)) dp120m12_42 (by decide) rfl
  replace w := w.iloadN (q := 44) (v := (3 : Int32)) dp120m12_43 rfl rfl
  replace w := w.imul (q := 45) (z := (6 : Int32)) dp120m12_44 (by decide) rfl
  replace w := w.iconst (q := 46) (z := (1 : Int32)) dp120m12_45 (by decide) rfl
  replace w := w.iadd (q := 47) (z := (7 : Int32)) dp120m12_46 (by decide) rfl
  replace w := w.ldIl (q := 48) (v := (.int y7)) (S.2.2.1) 7 rfl rfl dp120m12_47 rfl
  obtain ⟨z85, hz85⟩ : ∃ z : Int32, y6 + y7 = z := ⟨_, rfl⟩
  replace w := w.iadd (q := 49) dp120m12_48 hz85 rfl
  obtain ⟨h86, W87, w⟩ := w.stIl (q := 50) (S.2.2.1) 3 rfl (ltl rfl) (S.2.2.2.2.1.2.2.1) dp120m12_49 rfl
  replace S := S.setC W87
  replace S : Gt Z h86 n0 a r c p lv dp pn rb cb [(.double (0 : UInt64)), (.double (0 : UInt64)), (.double (0 : UInt64)), (.double (0 : UInt64)), (.double (0 : UInt64)), (.double (0 : UInt64)), (.double (0 : UInt64)), (.double (0 : UInt64))] [(.int y0), (.int y1), (.int y2), (.int z85), (.int y4), (.int y5), (.int y6), (.int y7)] [(.int p0), (.int p1), (.int p2), (.int p3), (.int p4), (.int p5), (.int p6), (.int p7)] := S
  exact w.retV dp120m12_50 ⟨rfl, by subst_vars; exact S⟩ (by decide) (by decide)
set_option maxRecDepth 65536 in
set_option maxHeartbeats 40000000 in
theorem own_set_1_0 (l : Launch) (Z : State) (a0 : Array Value) (hw : ∀ d ∈ tables_1, d.before a0 Z = true) (h0 : Heap) (n0 : Nat) (Z0 : n0 ≤ h0.size) (a r c p : Nat) (cb : Int32) (y0 : Int32) (y1 : Int32) (p0 : Int32) (p1 : Int32) (p2 : Int32) (p3 : Int32) (p4 : Int32) (p5 : Int32) (p6 : Int32) (p7 : Int32) (cv : Int32) (S : Gt Z h0 n0 a r c p (1 : Int32) (0 : Int32) (0 : Int32) (0 : Int32) cb [(.double (0 : UInt64)), (.double (0 : UInt64))] [(.int y0), (.int y1)] [(.int p0), (.int p1), (.int p2), (.int p3), (.int p4), (.int p5), (.int p6), (.int p7)]) :
    Met l Z (⟨"com/example/lucky_fork/luckyfork/model/GroupSums", "set", "(IDI)V"⟩ : MethodName) prog_120_method_4_code 6 none ({ frames := 0, cells := 0, slots := 0, locals := 0 } : Room) n0 #[(.ref a), (.int (0 : Int32)), (.double (0 : UInt64)), (.int cv)] h0 (fun v h => v = none ∧ Gt Z h n0 a r c p (1 : Int32) (0 : Int32) (1 : Int32) (0 : Int32) cb [(.double (0 : UInt64)), (.double (0 : UInt64))] [(.int y0), (.int cv)] [(.int (1 : Int32)), (.int p1), (.int p2), (.int p3), (.int p4), (.int p5), (.int p6), (.int p7)]) := by
  refine Met.of (Ls := #[.val (.ref a), .val (.int (0 : Int32)), .val (.double (0 : UInt64)), .second, .val (.int cv), .unset]) (plainFor_of_name pn_0) (fun m => by first | (simp [entryFrame, mkF, argsToLocals, Value.category, maxLocals]; done) | rfl) (fun κ w => ?_)
  replace w : Wk κ l Z "com/example/lucky_fork/luckyfork/model/GroupSums" "set" prog_120_method_4_code 6 none ({ frames := 0, cells := 0, slots := 0, locals := 0 } : Room) n0 h0 0 0 0 #[.val (.ref a), .val (.int (0 : Int32)), .val (.double (0 : UInt64)), .second, .val (.int cv), .unset] [] := w
  replace w := w.aloadN (q := 1) (v := (.ref a)) dp120m4_0 rfl rfl rfl
  replace w := w.getF (q := 4) (v := (.int (1 : Int32))) (hw _ (List.mem_of_getElem? (i := 13) rfl)) (S.1.2.1) dp120m4_1 rfl
  replace w := w.iloadN (q := 5) (v := (0 : Int32)) dp120m4_4 rfl rfl
  replace w := w.iadd (q := 6) (z := (1 : Int32)) dp120m4_5 (by decide) rfl
  replace w := w.istore (q := 8) (l' := #[.val (.ref a), .val (.int (0 : Int32)), .val (.double (0 : UInt64)), .second, .val (.int cv), .val (.int (1 : Int32))]) dp120m4_6 rfl rfl
  replace w := w.aloadN (q := 9) (v := (.ref a)) dp120m4_8 rfl rfl rfl
  replace w := w.getF (q := 12) (v := (.ref r)) (hw _ (List.mem_of_getElem? (i := 16) rfl)) (S.1.2.2.2.1) dp120m4_9 rfl
  replace w := w.iload (q := 14) (v := (1 : Int32)) dp120m4_12 rfl rfl
  replace w := w.dloadN (q := 15) (v := (0 : UInt64)) dp120m4_14 rfl rfl
  obtain ⟨h88, W89, w⟩ := w.stDl (q := 16) (S.2.1) 1 rfl (ltl rfl) (S.2.2.2.2.1.2.1) dp120m4_15 rfl
  replace S := S.setR W89
  replace S : Gt Z h88 n0 a r c p (1 : Int32) (0 : Int32) (0 : Int32) (0 : Int32) cb [(.double (0 : UInt64)), (.double (0 : UInt64))] [(.int y0), (.int y1)] [(.int p0), (.int p1), (.int p2), (.int p3), (.int p4), (.int p5), (.int p6), (.int p7)] := S
  replace w := w.aloadN (q := 17) (v := (.ref a)) dp120m4_16 rfl rfl rfl
  replace w := w.getF (q := 20) (v := (.ref c)) (hw _ (List.mem_of_getElem? (i := 19) rfl)) (S.1.2.2.2.2.1) dp120m4_17 rfl
  replace w := w.iload (q := 22) (v := (1 : Int32)) dp120m4_20 rfl rfl
  replace w := w.iload (q := 24) (v := cv) dp120m4_22 rfl rfl
  obtain ⟨h90, W91, w⟩ := w.stIl (q := 25) (S.2.2.1) 1 rfl (ltl rfl) (S.2.2.2.2.1.2.2.1) dp120m4_24 rfl
  replace S := S.setC W91
  replace S : Gt Z h90 n0 a r c p (1 : Int32) (0 : Int32) (0 : Int32) (0 : Int32) cb [(.double (0 : UInt64)), (.double (0 : UInt64))] [(.int y0), (.int cv)] [(.int p0), (.int p1), (.int p2), (.int p3), (.int p4), (.int p5), (.int p6), (.int p7)] := S
  replace w := w.aloadN (q := 26) (v := (.ref a)) dp120m4_25 rfl rfl rfl
  replace w := w.getF (q := 29) (v := (.int (0 : Int32))) (hw _ (List.mem_of_getElem? (i := 37) rfl)) (S.1.2.2.2.2.2.2.2.1) dp120m4_26 rfl
  obtain ⟨-, w⟩ := (w.ifEq (q := 33) (q' := 32) (xi := 0) dp120m4_29 rfl (by decide) (by decide) rfl).resolve_right (fun g => by have hc29 := g.1; revert hc29; decide)
  replace w := w.aloadN (q := 34) (v := (.ref a)) dp120m4_33 rfl rfl rfl
  replace w := w.getF (q := 37) (v := (.int (0 : Int32))) (hw _ (List.mem_of_getElem? (i := 35) rfl)) (S.1.2.2.2.2.2.2.1) dp120m4_34 rfl
  replace w := w.aloadN (q := 38) (v := (.ref a)) dp120m4_37 rfl rfl rfl
  replace w := w.getF (q := 41) (v := (.int (0 : Int32))) (hw _ (List.mem_of_getElem? (i := 44) rfl)) (S.1.2.2.1) dp120m4_38 rfl
  replace w := w.imul (q := 42) (z := (0 : Int32)) dp120m4_41 (by decide) rfl
  replace w := w.aloadN (q := 43) (v := (.ref a)) dp120m4_42 rfl rfl rfl
  replace w := w.getF (q := 46) (v := (.int (1 : Int32))) (hw _ (List.mem_of_getElem? (i := 13) rfl)) (S.1.2.1) dp120m4_43 rfl
  obtain ⟨-, w⟩ := (w.icmpLt (q := 55) (q' := 49) (xi := 0) (yi := 1) dp120m4_46 rfl rfl (by decide) (by decide) rfl).resolve_right (fun g => by have hc46 := g.1; revert hc46; decide)
  replace w := w.aloadN (q := 56) (v := (.ref a)) dp120m4_55 rfl rfl rfl
  replace w := w.getF (q := 59) (v := (.int (0 : Int32))) (hw _ (List.mem_of_getElem? (i := 35) rfl)) (S.1.2.2.2.2.2.2.1) dp120m4_56 rfl
  replace w := w.aloadN (q := 60) (v := (.ref a)) dp120m4_59 rfl rfl rfl
  replace w := w.getF (q := 63) (v := (.ref p)) (hw _ (List.mem_of_getElem? (i := 21) rfl)) (S.1.2.2.2.2.2.1) dp120m4_60 rfl
  replace w := w.lenl (q := 64) (z := 8) (S.2.2.2.1) rfl dp120m4_63 rfl
  obtain ⟨-, w⟩ := (w.icmpNe (q := 84) (q' := 67) (xi := 0) (yi := 8) dp120m4_64 rfl rfl (by decide) (by decide) rfl).resolve_right (fun g => by have hc64 := g.1; revert hc64; decide)
  replace w := w.aloadN (q := 85) (v := (.ref a)) dp120m4_84 rfl rfl rfl
  replace w := w.getF (q := 88) (v := (.ref p)) (hw _ (List.mem_of_getElem? (i := 21) rfl)) (S.1.2.2.2.2.2.1) dp120m4_85 rfl
  replace w := w.aloadN (q := 89) (v := (.ref a)) dp120m4_88 rfl rfl rfl
  replace w := w.dup (q := 90) dp120m4_89 rfl rfl
  replace w := w.getF (q := 93) (v := (.int (0 : Int32))) (hw _ (List.mem_of_getElem? (i := 35) rfl)) (S.1.2.2.2.2.2.2.1) dp120m4_90 rfl
  replace w := w.dupX1 (q := 94) dp120m4_93 rfl rfl rfl
  replace w := w.iconst (q := 95) (z := (1 : Int32)) dp120m4_94 (by decide) rfl
  replace w := w.iadd (q := 96) (z := (1 : Int32)) dp120m4_95 (by decide) rfl
  obtain ⟨h92, W93, w⟩ := w.putF (q := 99) (C := "com/example/lucky_fork/luckyfork/model/GroupSums") (hw _ (List.mem_of_getElem? (i := 35) rfl)) (S.1.2.2.2.2.2.2.1) (S.1.1) (Or.inl (hw _ (List.mem_of_getElem? (i := 36) rfl))) (hw _ (List.mem_of_getElem? (i := 5) rfl)) (ty := .int) (by decide) rfl rfl dp120m4_96 (S.2.2.2.2.1.1) rfl
  replace S := S.put_pendingCount hw W93
  replace w := w.iload (q := 101) (v := (1 : Int32)) dp120m4_99 rfl rfl
  obtain ⟨h94, W95, w⟩ := w.stIl (q := 102) (S.2.2.2.1) 0 rfl (ltl rfl) (S.2.2.2.2.1.2.2.2) dp120m4_101 rfl
  replace S := S.setP W95
  replace S : Gt Z h94 n0 a r c p (1 : Int32) (0 : Int32) (1 : Int32) (0 : Int32) cb [(.double (0 : UInt64)), (.double (0 : UInt64))] [(.int y0), (.int cv)] [(.int (1 : Int32)), (.int p1), (.int p2), (.int p3), (.int p4), (.int p5), (.int p6), (.int p7)] := S
  exact w.retV dp120m4_102 ⟨rfl, S⟩ (by decide) (by decide)
set_option maxRecDepth 65536 in
set_option maxHeartbeats 40000000 in
theorem own_set_2_0 (l : Launch) (Z : State) (a0 : Array Value) (hw : ∀ d ∈ tables_1, d.before a0 Z = true) (h0 : Heap) (n0 : Nat) (Z0 : n0 ≤ h0.size) (a r c p : Nat) (cb : Int32) (y0 : Int32) (y1 : Int32) (y2 : Int32) (y3 : Int32) (p0 : Int32) (p1 : Int32) (p2 : Int32) (p3 : Int32) (p4 : Int32) (p5 : Int32) (p6 : Int32) (p7 : Int32) (cv : Int32) (S : Gt Z h0 n0 a r c p (2 : Int32) (1 : Int32) (0 : Int32) (0 : Int32) cb [(.double (0 : UInt64)), (.double (0 : UInt64)), (.double (0 : UInt64)), (.double (0 : UInt64))] [(.int y0), (.int y1), (.int y2), (.int y3)] [(.int p0), (.int p1), (.int p2), (.int p3), (.int p4), (.int p5), (.int p6), (.int p7)]) :
    Met l Z (⟨"com/example/lucky_fork/luckyfork/model/GroupSums", "set", "(IDI)V"⟩ : MethodName) prog_120_method_4_code 6 none ({ frames := 0, cells := 0, slots := 0, locals := 0 } : Room) n0 #[(.ref a), (.int (0 : Int32)), (.double (0 : UInt64)), (.int cv)] h0 (fun v h => v = none ∧ Gt Z h n0 a r c p (2 : Int32) (1 : Int32) (1 : Int32) (0 : Int32) cb [(.double (0 : UInt64)), (.double (0 : UInt64)), (.double (0 : UInt64)), (.double (0 : UInt64))] [(.int y0), (.int y1), (.int cv), (.int y3)] [(.int (2 : Int32)), (.int p1), (.int p2), (.int p3), (.int p4), (.int p5), (.int p6), (.int p7)]) := by
  refine Met.of (Ls := #[.val (.ref a), .val (.int (0 : Int32)), .val (.double (0 : UInt64)), .second, .val (.int cv), .unset]) (plainFor_of_name pn_0) (fun m => by first | (simp [entryFrame, mkF, argsToLocals, Value.category, maxLocals]; done) | rfl) (fun κ w => ?_)
  replace w : Wk κ l Z "com/example/lucky_fork/luckyfork/model/GroupSums" "set" prog_120_method_4_code 6 none ({ frames := 0, cells := 0, slots := 0, locals := 0 } : Room) n0 h0 0 0 0 #[.val (.ref a), .val (.int (0 : Int32)), .val (.double (0 : UInt64)), .second, .val (.int cv), .unset] [] := w
  replace w := w.aloadN (q := 1) (v := (.ref a)) dp120m4_0 rfl rfl rfl
  replace w := w.getF (q := 4) (v := (.int (2 : Int32))) (hw _ (List.mem_of_getElem? (i := 13) rfl)) (S.1.2.1) dp120m4_1 rfl
  replace w := w.iloadN (q := 5) (v := (0 : Int32)) dp120m4_4 rfl rfl
  replace w := w.iadd (q := 6) (z := (2 : Int32)) dp120m4_5 (by decide) rfl
  replace w := w.istore (q := 8) (l' := #[.val (.ref a), .val (.int (0 : Int32)), .val (.double (0 : UInt64)), .second, .val (.int cv), .val (.int (2 : Int32))]) dp120m4_6 rfl rfl
  replace w := w.aloadN (q := 9) (v := (.ref a)) dp120m4_8 rfl rfl rfl
  replace w := w.getF (q := 12) (v := (.ref r)) (hw _ (List.mem_of_getElem? (i := 16) rfl)) (S.1.2.2.2.1) dp120m4_9 rfl
  replace w := w.iload (q := 14) (v := (2 : Int32)) dp120m4_12 rfl rfl
  replace w := w.dloadN (q := 15) (v := (0 : UInt64)) dp120m4_14 rfl rfl
  obtain ⟨h96, W97, w⟩ := w.stDl (q := 16) (S.2.1) 2 rfl (ltl rfl) (S.2.2.2.2.1.2.1) dp120m4_15 rfl
  replace S := S.setR W97
  replace S : Gt Z h96 n0 a r c p (2 : Int32) (1 : Int32) (0 : Int32) (0 : Int32) cb [(.double (0 : UInt64)), (.double (0 : UInt64)), (.double (0 : UInt64)), (.double (0 : UInt64))] [(.int y0), (.int y1), (.int y2), (.int y3)] [(.int p0), (.int p1), (.int p2), (.int p3), (.int p4), (.int p5), (.int p6), (.int p7)] := S
  replace w := w.aloadN (q := 17) (v := (.ref a)) dp120m4_16 rfl rfl rfl
  replace w := w.getF (q := 20) (v := (.ref c)) (hw _ (List.mem_of_getElem? (i := 19) rfl)) (S.1.2.2.2.2.1) dp120m4_17 rfl
  replace w := w.iload (q := 22) (v := (2 : Int32)) dp120m4_20 rfl rfl
  replace w := w.iload (q := 24) (v := cv) dp120m4_22 rfl rfl
  obtain ⟨h98, W99, w⟩ := w.stIl (q := 25) (S.2.2.1) 2 rfl (ltl rfl) (S.2.2.2.2.1.2.2.1) dp120m4_24 rfl
  replace S := S.setC W99
  replace S : Gt Z h98 n0 a r c p (2 : Int32) (1 : Int32) (0 : Int32) (0 : Int32) cb [(.double (0 : UInt64)), (.double (0 : UInt64)), (.double (0 : UInt64)), (.double (0 : UInt64))] [(.int y0), (.int y1), (.int cv), (.int y3)] [(.int p0), (.int p1), (.int p2), (.int p3), (.int p4), (.int p5), (.int p6), (.int p7)] := S
  replace w := w.aloadN (q := 26) (v := (.ref a)) dp120m4_25 rfl rfl rfl
  replace w := w.getF (q := 29) (v := (.int (0 : Int32))) (hw _ (List.mem_of_getElem? (i := 37) rfl)) (S.1.2.2.2.2.2.2.2.1) dp120m4_26 rfl
  obtain ⟨-, w⟩ := (w.ifEq (q := 33) (q' := 32) (xi := 0) dp120m4_29 rfl (by decide) (by decide) rfl).resolve_right (fun g => by have hc29 := g.1; revert hc29; decide)
  replace w := w.aloadN (q := 34) (v := (.ref a)) dp120m4_33 rfl rfl rfl
  replace w := w.getF (q := 37) (v := (.int (0 : Int32))) (hw _ (List.mem_of_getElem? (i := 35) rfl)) (S.1.2.2.2.2.2.2.1) dp120m4_34 rfl
  replace w := w.aloadN (q := 38) (v := (.ref a)) dp120m4_37 rfl rfl rfl
  replace w := w.getF (q := 41) (v := (.int (1 : Int32))) (hw _ (List.mem_of_getElem? (i := 44) rfl)) (S.1.2.2.1) dp120m4_38 rfl
  replace w := w.imul (q := 42) (z := (0 : Int32)) dp120m4_41 (by decide) rfl
  replace w := w.aloadN (q := 43) (v := (.ref a)) dp120m4_42 rfl rfl rfl
  replace w := w.getF (q := 46) (v := (.int (2 : Int32))) (hw _ (List.mem_of_getElem? (i := 13) rfl)) (S.1.2.1) dp120m4_43 rfl
  obtain ⟨-, w⟩ := (w.icmpLt (q := 55) (q' := 49) (xi := 0) (yi := 2) dp120m4_46 rfl rfl (by decide) (by decide) rfl).resolve_right (fun g => by have hc46 := g.1; revert hc46; decide)
  replace w := w.aloadN (q := 56) (v := (.ref a)) dp120m4_55 rfl rfl rfl
  replace w := w.getF (q := 59) (v := (.int (0 : Int32))) (hw _ (List.mem_of_getElem? (i := 35) rfl)) (S.1.2.2.2.2.2.2.1) dp120m4_56 rfl
  replace w := w.aloadN (q := 60) (v := (.ref a)) dp120m4_59 rfl rfl rfl
  replace w := w.getF (q := 63) (v := (.ref p)) (hw _ (List.mem_of_getElem? (i := 21) rfl)) (S.1.2.2.2.2.2.1) dp120m4_60 rfl
  replace w := w.lenl (q := 64) (z := 8) (S.2.2.2.1) rfl dp120m4_63 rfl
  obtain ⟨-, w⟩ := (w.icmpNe (q := 84) (q' := 67) (xi := 0) (yi := 8) dp120m4_64 rfl rfl (by decide) (by decide) rfl).resolve_right (fun g => by have hc64 := g.1; revert hc64; decide)
  replace w := w.aloadN (q := 85) (v := (.ref a)) dp120m4_84 rfl rfl rfl
  replace w := w.getF (q := 88) (v := (.ref p)) (hw _ (List.mem_of_getElem? (i := 21) rfl)) (S.1.2.2.2.2.2.1) dp120m4_85 rfl
  replace w := w.aloadN (q := 89) (v := (.ref a)) dp120m4_88 rfl rfl rfl
  replace w := w.dup (q := 90) dp120m4_89 rfl rfl
  replace w := w.getF (q := 93) (v := (.int (0 : Int32))) (hw _ (List.mem_of_getElem? (i := 35) rfl)) (S.1.2.2.2.2.2.2.1) dp120m4_90 rfl
  replace w := w.dupX1 (q := 94) dp120m4_93 rfl rfl rfl
  replace w := w.iconst (q := 95) (z := (1 : Int32)) dp120m4_94 (by decide) rfl
  replace w := w.iadd (q := 96) (z := (1 : Int32)) dp120m4_95 (by decide) rfl
  obtain ⟨h100, W101, w⟩ := w.putF (q := 99) (C := "com/example/lucky_fork/luckyfork/model/GroupSums") (hw _ (List.mem_of_getElem? (i := 35) rfl)) (S.1.2.2.2.2.2.2.1) (S.1.1) (Or.inl (hw _ (List.mem_of_getElem? (i := 36) rfl))) (hw _ (List.mem_of_getElem? (i := 5) rfl)) (ty := .int) (by decide) rfl rfl dp120m4_96 (S.2.2.2.2.1.1) rfl
  replace S := S.put_pendingCount hw W101
  replace w := w.iload (q := 101) (v := (2 : Int32)) dp120m4_99 rfl rfl
  obtain ⟨h102, W103, w⟩ := w.stIl (q := 102) (S.2.2.2.1) 0 rfl (ltl rfl) (S.2.2.2.2.1.2.2.2) dp120m4_101 rfl
  replace S := S.setP W103
  replace S : Gt Z h102 n0 a r c p (2 : Int32) (1 : Int32) (1 : Int32) (0 : Int32) cb [(.double (0 : UInt64)), (.double (0 : UInt64)), (.double (0 : UInt64)), (.double (0 : UInt64))] [(.int y0), (.int y1), (.int cv), (.int y3)] [(.int (2 : Int32)), (.int p1), (.int p2), (.int p3), (.int p4), (.int p5), (.int p6), (.int p7)] := S
  exact w.retV dp120m4_102 ⟨rfl, S⟩ (by decide) (by decide)
set_option maxRecDepth 65536 in
set_option maxHeartbeats 40000000 in
theorem own_set_2_1 (l : Launch) (Z : State) (a0 : Array Value) (hw : ∀ d ∈ tables_1, d.before a0 Z = true) (h0 : Heap) (n0 : Nat) (Z0 : n0 ≤ h0.size) (a r c p : Nat) (cb : Int32) (y0 : Int32) (y1 : Int32) (y2 : Int32) (y3 : Int32) (p0 : Int32) (p1 : Int32) (p2 : Int32) (p3 : Int32) (p4 : Int32) (p5 : Int32) (p6 : Int32) (p7 : Int32) (cv : Int32) (S : Gt Z h0 n0 a r c p (2 : Int32) (1 : Int32) (1 : Int32) (0 : Int32) cb [(.double (0 : UInt64)), (.double (0 : UInt64)), (.double (0 : UInt64)), (.double (0 : UInt64))] [(.int y0), (.int y1), (.int y2), (.int y3)] [(.int p0), (.int p1), (.int p2), (.int p3), (.int p4), (.int p5), (.int p6), (.int p7)]) :
    Met l Z (⟨"com/example/lucky_fork/luckyfork/model/GroupSums", "set", "(IDI)V"⟩ : MethodName) prog_120_method_4_code 6 none ({ frames := 0, cells := 0, slots := 0, locals := 0 } : Room) n0 #[(.ref a), (.int (1 : Int32)), (.double (0 : UInt64)), (.int cv)] h0 (fun v h => v = none ∧ Gt Z h n0 a r c p (2 : Int32) (1 : Int32) (2 : Int32) (0 : Int32) cb [(.double (0 : UInt64)), (.double (0 : UInt64)), (.double (0 : UInt64)), (.double (0 : UInt64))] [(.int y0), (.int y1), (.int y2), (.int cv)] [(.int p0), (.int (3 : Int32)), (.int p2), (.int p3), (.int p4), (.int p5), (.int p6), (.int p7)]) := by
  refine Met.of (Ls := #[.val (.ref a), .val (.int (1 : Int32)), .val (.double (0 : UInt64)), .second, .val (.int cv), .unset]) (plainFor_of_name pn_0) (fun m => by first | (simp [entryFrame, mkF, argsToLocals, Value.category, maxLocals]; done) | rfl) (fun κ w => ?_)
  replace w : Wk κ l Z "com/example/lucky_fork/luckyfork/model/GroupSums" "set" prog_120_method_4_code 6 none ({ frames := 0, cells := 0, slots := 0, locals := 0 } : Room) n0 h0 0 0 0 #[.val (.ref a), .val (.int (1 : Int32)), .val (.double (0 : UInt64)), .second, .val (.int cv), .unset] [] := w
  replace w := w.aloadN (q := 1) (v := (.ref a)) dp120m4_0 rfl rfl rfl
  replace w := w.getF (q := 4) (v := (.int (2 : Int32))) (hw _ (List.mem_of_getElem? (i := 13) rfl)) (S.1.2.1) dp120m4_1 rfl
  replace w := w.iloadN (q := 5) (v := (1 : Int32)) dp120m4_4 rfl rfl
  replace w := w.iadd (q := 6) (z := (3 : Int32)) dp120m4_5 (by decide) rfl
  replace w := w.istore (q := 8) (l' := #[.val (.ref a), .val (.int (1 : Int32)), .val (.double (0 : UInt64)), .second, .val (.int cv), .val (.int (3 : Int32))]) dp120m4_6 rfl rfl
  replace w := w.aloadN (q := 9) (v := (.ref a)) dp120m4_8 rfl rfl rfl
  replace w := w.getF (q := 12) (v := (.ref r)) (hw _ (List.mem_of_getElem? (i := 16) rfl)) (S.1.2.2.2.1) dp120m4_9 rfl
  replace w := w.iload (q := 14) (v := (3 : Int32)) dp120m4_12 rfl rfl
  replace w := w.dloadN (q := 15) (v := (0 : UInt64)) dp120m4_14 rfl rfl
  obtain ⟨h104, W105, w⟩ := w.stDl (q := 16) (S.2.1) 3 rfl (ltl rfl) (S.2.2.2.2.1.2.1) dp120m4_15 rfl
  replace S := S.setR W105
  replace S : Gt Z h104 n0 a r c p (2 : Int32) (1 : Int32) (1 : Int32) (0 : Int32) cb [(.double (0 : UInt64)), (.double (0 : UInt64)), (.double (0 : UInt64)), (.double (0 : UInt64))] [(.int y0), (.int y1), (.int y2), (.int y3)] [(.int p0), (.int p1), (.int p2), (.int p3), (.int p4), (.int p5), (.int p6), (.int p7)] := S
  replace w := w.aloadN (q := 17) (v := (.ref a)) dp120m4_16 rfl rfl rfl
  replace w := w.getF (q := 20) (v := (.ref c)) (hw _ (List.mem_of_getElem? (i := 19) rfl)) (S.1.2.2.2.2.1) dp120m4_17 rfl
  replace w := w.iload (q := 22) (v := (3 : Int32)) dp120m4_20 rfl rfl
  replace w := w.iload (q := 24) (v := cv) dp120m4_22 rfl rfl
  obtain ⟨h106, W107, w⟩ := w.stIl (q := 25) (S.2.2.1) 3 rfl (ltl rfl) (S.2.2.2.2.1.2.2.1) dp120m4_24 rfl
  replace S := S.setC W107
  replace S : Gt Z h106 n0 a r c p (2 : Int32) (1 : Int32) (1 : Int32) (0 : Int32) cb [(.double (0 : UInt64)), (.double (0 : UInt64)), (.double (0 : UInt64)), (.double (0 : UInt64))] [(.int y0), (.int y1), (.int y2), (.int cv)] [(.int p0), (.int p1), (.int p2), (.int p3), (.int p4), (.int p5), (.int p6), (.int p7)] := S
  replace w := w.aloadN (q := 26) (v := (.ref a)) dp120m4_25 rfl rfl rfl
  replace w := w.getF (q := 29) (v := (.int (0 : Int32))) (hw _ (List.mem_of_getElem? (i := 37) rfl)) (S.1.2.2.2.2.2.2.2.1) dp120m4_26 rfl
  obtain ⟨-, w⟩ := (w.ifEq (q := 33) (q' := 32) (xi := 0) dp120m4_29 rfl (by decide) (by decide) rfl).resolve_right (fun g => by have hc29 := g.1; revert hc29; decide)
  replace w := w.aloadN (q := 34) (v := (.ref a)) dp120m4_33 rfl rfl rfl
  replace w := w.getF (q := 37) (v := (.int (1 : Int32))) (hw _ (List.mem_of_getElem? (i := 35) rfl)) (S.1.2.2.2.2.2.2.1) dp120m4_34 rfl
  replace w := w.aloadN (q := 38) (v := (.ref a)) dp120m4_37 rfl rfl rfl
  replace w := w.getF (q := 41) (v := (.int (1 : Int32))) (hw _ (List.mem_of_getElem? (i := 44) rfl)) (S.1.2.2.1) dp120m4_38 rfl
  replace w := w.imul (q := 42) (z := (1 : Int32)) dp120m4_41 (by decide) rfl
  replace w := w.aloadN (q := 43) (v := (.ref a)) dp120m4_42 rfl rfl rfl
  replace w := w.getF (q := 46) (v := (.int (2 : Int32))) (hw _ (List.mem_of_getElem? (i := 13) rfl)) (S.1.2.1) dp120m4_43 rfl
  obtain ⟨-, w⟩ := (w.icmpLt (q := 55) (q' := 49) (xi := 1) (yi := 2) dp120m4_46 rfl rfl (by decide) (by decide) rfl).resolve_right (fun g => by have hc46 := g.1; revert hc46; decide)
  replace w := w.aloadN (q := 56) (v := (.ref a)) dp120m4_55 rfl rfl rfl
  replace w := w.getF (q := 59) (v := (.int (1 : Int32))) (hw _ (List.mem_of_getElem? (i := 35) rfl)) (S.1.2.2.2.2.2.2.1) dp120m4_56 rfl
  replace w := w.aloadN (q := 60) (v := (.ref a)) dp120m4_59 rfl rfl rfl
  replace w := w.getF (q := 63) (v := (.ref p)) (hw _ (List.mem_of_getElem? (i := 21) rfl)) (S.1.2.2.2.2.2.1) dp120m4_60 rfl
  replace w := w.lenl (q := 64) (z := 8) (S.2.2.2.1) rfl dp120m4_63 rfl
  obtain ⟨-, w⟩ := (w.icmpNe (q := 84) (q' := 67) (xi := 1) (yi := 8) dp120m4_64 rfl rfl (by decide) (by decide) rfl).resolve_right (fun g => by have hc64 := g.1; revert hc64; decide)
  replace w := w.aloadN (q := 85) (v := (.ref a)) dp120m4_84 rfl rfl rfl
  replace w := w.getF (q := 88) (v := (.ref p)) (hw _ (List.mem_of_getElem? (i := 21) rfl)) (S.1.2.2.2.2.2.1) dp120m4_85 rfl
  replace w := w.aloadN (q := 89) (v := (.ref a)) dp120m4_88 rfl rfl rfl
  replace w := w.dup (q := 90) dp120m4_89 rfl rfl
  replace w := w.getF (q := 93) (v := (.int (1 : Int32))) (hw _ (List.mem_of_getElem? (i := 35) rfl)) (S.1.2.2.2.2.2.2.1) dp120m4_90 rfl
  replace w := w.dupX1 (q := 94) dp120m4_93 rfl rfl rfl
  replace w := w.iconst (q := 95) (z := (1 : Int32)) dp120m4_94 (by decide) rfl
  replace w := w.iadd (q := 96) (z := (2 : Int32)) dp120m4_95 (by decide) rfl
  obtain ⟨h108, W109, w⟩ := w.putF (q := 99) (C := "com/example/lucky_fork/luckyfork/model/GroupSums") (hw _ (List.mem_of_getElem? (i := 35) rfl)) (S.1.2.2.2.2.2.2.1) (S.1.1) (Or.inl (hw _ (List.mem_of_getElem? (i := 36) rfl))) (hw _ (List.mem_of_getElem? (i := 5) rfl)) (ty := .int) (by decide) rfl rfl dp120m4_96 (S.2.2.2.2.1.1) rfl
  replace S := S.put_pendingCount hw W109
  replace w := w.iload (q := 101) (v := (3 : Int32)) dp120m4_99 rfl rfl
  obtain ⟨h110, W111, w⟩ := w.stIl (q := 102) (S.2.2.2.1) 1 rfl (ltl rfl) (S.2.2.2.2.1.2.2.2) dp120m4_101 rfl
  replace S := S.setP W111
  replace S : Gt Z h110 n0 a r c p (2 : Int32) (1 : Int32) (2 : Int32) (0 : Int32) cb [(.double (0 : UInt64)), (.double (0 : UInt64)), (.double (0 : UInt64)), (.double (0 : UInt64))] [(.int y0), (.int y1), (.int y2), (.int cv)] [(.int p0), (.int (3 : Int32)), (.int p2), (.int p3), (.int p4), (.int p5), (.int p6), (.int p7)] := S
  exact w.retV dp120m4_102 ⟨rfl, S⟩ (by decide) (by decide)
set_option maxRecDepth 65536 in
set_option maxHeartbeats 40000000 in
theorem own_set_4_0 (l : Launch) (Z : State) (a0 : Array Value) (hw : ∀ d ∈ tables_1, d.before a0 Z = true) (h0 : Heap) (n0 : Nat) (Z0 : n0 ≤ h0.size) (a r c p : Nat) (cb : Int32) (y0 : Int32) (y1 : Int32) (y2 : Int32) (y3 : Int32) (y4 : Int32) (y5 : Int32) (y6 : Int32) (y7 : Int32) (p0 : Int32) (p1 : Int32) (p2 : Int32) (p3 : Int32) (p4 : Int32) (p5 : Int32) (p6 : Int32) (p7 : Int32) (cv : Int32) (S : Gt Z h0 n0 a r c p (4 : Int32) (2 : Int32) (0 : Int32) (0 : Int32) cb [(.double (0 : UInt64)), (.double (0 : UInt64)), (.double (0 : UInt64)), (.double (0 : UInt64)), (.double (0 : UInt64)), (.double (0 : UInt64)), (.double (0 : UInt64)), (.double (0 : UInt64))] [(.int y0), (.int y1), (.int y2), (.int y3), (.int y4), (.int y5), (.int y6), (.int y7)] [(.int p0), (.int p1), (.int p2), (.int p3), (.int p4), (.int p5), (.int p6), (.int p7)]) :
    Met l Z (⟨"com/example/lucky_fork/luckyfork/model/GroupSums", "set", "(IDI)V"⟩ : MethodName) prog_120_method_4_code 6 none ({ frames := 0, cells := 0, slots := 0, locals := 0 } : Room) n0 #[(.ref a), (.int (0 : Int32)), (.double (0 : UInt64)), (.int cv)] h0 (fun v h => v = none ∧ Gt Z h n0 a r c p (4 : Int32) (2 : Int32) (1 : Int32) (0 : Int32) cb [(.double (0 : UInt64)), (.double (0 : UInt64)), (.double (0 : UInt64)), (.double (0 : UInt64)), (.double (0 : UInt64)), (.double (0 : UInt64)), (.double (0 : UInt64)), (.double (0 : UInt64))] [(.int y0), (.int y1), (.int y2), (.int y3), (.int cv), (.int y5), (.int y6), (.int y7)] [(.int (4 : Int32)), (.int p1), (.int p2), (.int p3), (.int p4), (.int p5), (.int p6), (.int p7)]) := by
  refine Met.of (Ls := #[.val (.ref a), .val (.int (0 : Int32)), .val (.double (0 : UInt64)), .second, .val (.int cv), .unset]) (plainFor_of_name pn_0) (fun m => by first | (simp [entryFrame, mkF, argsToLocals, Value.category, maxLocals]; done) | rfl) (fun κ w => ?_)
  replace w : Wk κ l Z "com/example/lucky_fork/luckyfork/model/GroupSums" "set" prog_120_method_4_code 6 none ({ frames := 0, cells := 0, slots := 0, locals := 0 } : Room) n0 h0 0 0 0 #[.val (.ref a), .val (.int (0 : Int32)), .val (.double (0 : UInt64)), .second, .val (.int cv), .unset] [] := w
  replace w := w.aloadN (q := 1) (v := (.ref a)) dp120m4_0 rfl rfl rfl
  replace w := w.getF (q := 4) (v := (.int (4 : Int32))) (hw _ (List.mem_of_getElem? (i := 13) rfl)) (S.1.2.1) dp120m4_1 rfl
  replace w := w.iloadN (q := 5) (v := (0 : Int32)) dp120m4_4 rfl rfl
  replace w := w.iadd (q := 6) (z := (4 : Int32)) dp120m4_5 (by decide) rfl
  replace w := w.istore (q := 8) (l' := #[.val (.ref a), .val (.int (0 : Int32)), .val (.double (0 : UInt64)), .second, .val (.int cv), .val (.int (4 : Int32))]) dp120m4_6 rfl rfl
  replace w := w.aloadN (q := 9) (v := (.ref a)) dp120m4_8 rfl rfl rfl
  replace w := w.getF (q := 12) (v := (.ref r)) (hw _ (List.mem_of_getElem? (i := 16) rfl)) (S.1.2.2.2.1) dp120m4_9 rfl
  replace w := w.iload (q := 14) (v := (4 : Int32)) dp120m4_12 rfl rfl
  replace w := w.dloadN (q := 15) (v := (0 : UInt64)) dp120m4_14 rfl rfl
  obtain ⟨h112, W113, w⟩ := w.stDl (q := 16) (S.2.1) 4 rfl (ltl rfl) (S.2.2.2.2.1.2.1) dp120m4_15 rfl
  replace S := S.setR W113
  replace S : Gt Z h112 n0 a r c p (4 : Int32) (2 : Int32) (0 : Int32) (0 : Int32) cb [(.double (0 : UInt64)), (.double (0 : UInt64)), (.double (0 : UInt64)), (.double (0 : UInt64)), (.double (0 : UInt64)), (.double (0 : UInt64)), (.double (0 : UInt64)), (.double (0 : UInt64))] [(.int y0), (.int y1), (.int y2), (.int y3), (.int y4), (.int y5), (.int y6), (.int y7)] [(.int p0), (.int p1), (.int p2), (.int p3), (.int p4), (.int p5), (.int p6), (.int p7)] := S
  replace w := w.aloadN (q := 17) (v := (.ref a)) dp120m4_16 rfl rfl rfl
  replace w := w.getF (q := 20) (v := (.ref c)) (hw _ (List.mem_of_getElem? (i := 19) rfl)) (S.1.2.2.2.2.1) dp120m4_17 rfl
  replace w := w.iload (q := 22) (v := (4 : Int32)) dp120m4_20 rfl rfl
  replace w := w.iload (q := 24) (v := cv) dp120m4_22 rfl rfl
  obtain ⟨h114, W115, w⟩ := w.stIl (q := 25) (S.2.2.1) 4 rfl (ltl rfl) (S.2.2.2.2.1.2.2.1) dp120m4_24 rfl
  replace S := S.setC W115
  replace S : Gt Z h114 n0 a r c p (4 : Int32) (2 : Int32) (0 : Int32) (0 : Int32) cb [(.double (0 : UInt64)), (.double (0 : UInt64)), (.double (0 : UInt64)), (.double (0 : UInt64)), (.double (0 : UInt64)), (.double (0 : UInt64)), (.double (0 : UInt64)), (.double (0 : UInt64))] [(.int y0), (.int y1), (.int y2), (.int y3), (.int cv), (.int y5), (.int y6), (.int y7)] [(.int p0), (.int p1), (.int p2), (.int p3), (.int p4), (.int p5), (.int p6), (.int p7)] := S
  replace w := w.aloadN (q := 26) (v := (.ref a)) dp120m4_25 rfl rfl rfl
  replace w := w.getF (q := 29) (v := (.int (0 : Int32))) (hw _ (List.mem_of_getElem? (i := 37) rfl)) (S.1.2.2.2.2.2.2.2.1) dp120m4_26 rfl
  obtain ⟨-, w⟩ := (w.ifEq (q := 33) (q' := 32) (xi := 0) dp120m4_29 rfl (by decide) (by decide) rfl).resolve_right (fun g => by have hc29 := g.1; revert hc29; decide)
  replace w := w.aloadN (q := 34) (v := (.ref a)) dp120m4_33 rfl rfl rfl
  replace w := w.getF (q := 37) (v := (.int (0 : Int32))) (hw _ (List.mem_of_getElem? (i := 35) rfl)) (S.1.2.2.2.2.2.2.1) dp120m4_34 rfl
  replace w := w.aloadN (q := 38) (v := (.ref a)) dp120m4_37 rfl rfl rfl
  replace w := w.getF (q := 41) (v := (.int (2 : Int32))) (hw _ (List.mem_of_getElem? (i := 44) rfl)) (S.1.2.2.1) dp120m4_38 rfl
  replace w := w.imul (q := 42) (z := (0 : Int32)) dp120m4_41 (by decide) rfl
  replace w := w.aloadN (q := 43) (v := (.ref a)) dp120m4_42 rfl rfl rfl
  replace w := w.getF (q := 46) (v := (.int (4 : Int32))) (hw _ (List.mem_of_getElem? (i := 13) rfl)) (S.1.2.1) dp120m4_43 rfl
  obtain ⟨-, w⟩ := (w.icmpLt (q := 55) (q' := 49) (xi := 0) (yi := 4) dp120m4_46 rfl rfl (by decide) (by decide) rfl).resolve_right (fun g => by have hc46 := g.1; revert hc46; decide)
  replace w := w.aloadN (q := 56) (v := (.ref a)) dp120m4_55 rfl rfl rfl
  replace w := w.getF (q := 59) (v := (.int (0 : Int32))) (hw _ (List.mem_of_getElem? (i := 35) rfl)) (S.1.2.2.2.2.2.2.1) dp120m4_56 rfl
  replace w := w.aloadN (q := 60) (v := (.ref a)) dp120m4_59 rfl rfl rfl
  replace w := w.getF (q := 63) (v := (.ref p)) (hw _ (List.mem_of_getElem? (i := 21) rfl)) (S.1.2.2.2.2.2.1) dp120m4_60 rfl
  replace w := w.lenl (q := 64) (z := 8) (S.2.2.2.1) rfl dp120m4_63 rfl
  obtain ⟨-, w⟩ := (w.icmpNe (q := 84) (q' := 67) (xi := 0) (yi := 8) dp120m4_64 rfl rfl (by decide) (by decide) rfl).resolve_right (fun g => by have hc64 := g.1; revert hc64; decide)
  replace w := w.aloadN (q := 85) (v := (.ref a)) dp120m4_84 rfl rfl rfl
  replace w := w.getF (q := 88) (v := (.ref p)) (hw _ (List.mem_of_getElem? (i := 21) rfl)) (S.1.2.2.2.2.2.1) dp120m4_85 rfl
  replace w := w.aloadN (q := 89) (v := (.ref a)) dp120m4_88 rfl rfl rfl
  replace w := w.dup (q := 90) dp120m4_89 rfl rfl
  replace w := w.getF (q := 93) (v := (.int (0 : Int32))) (hw _ (List.mem_of_getElem? (i := 35) rfl)) (S.1.2.2.2.2.2.2.1) dp120m4_90 rfl
  replace w := w.dupX1 (q := 94) dp120m4_93 rfl rfl rfl
  replace w := w.iconst (q := 95) (z := (1 : Int32)) dp120m4_94 (by decide) rfl
  replace w := w.iadd (q := 96) (z := (1 : Int32)) dp120m4_95 (by decide) rfl
  obtain ⟨h116, W117, w⟩ := w.putF (q := 99) (C := "com/example/lucky_fork/luckyfork/model/GroupSums") (hw _ (List.mem_of_getElem? (i := 35) rfl)) (S.1.2.2.2.2.2.2.1) (S.1.1) (Or.inl (hw _ (List.mem_of_getElem? (i := 36) rfl))) (hw _ (List.mem_of_getElem? (i := 5) rfl)) (ty := .int) (by decide) rfl rfl dp120m4_96 (S.2.2.2.2.1.1) rfl
  replace S := S.put_pendingCount hw W117
  replace w := w.iload (q := 101) (v := (4 : Int32)) dp120m4_99 rfl rfl
  obtain ⟨h118, W119, w⟩ := w.stIl (q := 102) (S.2.2.2.1) 0 rfl (ltl rfl) (S.2.2.2.2.1.2.2.2) dp120m4_101 rfl
  replace S := S.setP W119
  replace S : Gt Z h118 n0 a r c p (4 : Int32) (2 : Int32) (1 : Int32) (0 : Int32) cb [(.double (0 : UInt64)), (.double (0 : UInt64)), (.double (0 : UInt64)), (.double (0 : UInt64)), (.double (0 : UInt64)), (.double (0 : UInt64)), (.double (0 : UInt64)), (.double (0 : UInt64))] [(.int y0), (.int y1), (.int y2), (.int y3), (.int cv), (.int y5), (.int y6), (.int y7)] [(.int (4 : Int32)), (.int p1), (.int p2), (.int p3), (.int p4), (.int p5), (.int p6), (.int p7)] := S
  exact w.retV dp120m4_102 ⟨rfl, S⟩ (by decide) (by decide)
set_option maxRecDepth 65536 in
set_option maxHeartbeats 40000000 in
theorem own_set_4_1 (l : Launch) (Z : State) (a0 : Array Value) (hw : ∀ d ∈ tables_1, d.before a0 Z = true) (h0 : Heap) (n0 : Nat) (Z0 : n0 ≤ h0.size) (a r c p : Nat) (cb : Int32) (y0 : Int32) (y1 : Int32) (y2 : Int32) (y3 : Int32) (y4 : Int32) (y5 : Int32) (y6 : Int32) (y7 : Int32) (p0 : Int32) (p1 : Int32) (p2 : Int32) (p3 : Int32) (p4 : Int32) (p5 : Int32) (p6 : Int32) (p7 : Int32) (cv : Int32) (S : Gt Z h0 n0 a r c p (4 : Int32) (2 : Int32) (1 : Int32) (0 : Int32) cb [(.double (0 : UInt64)), (.double (0 : UInt64)), (.double (0 : UInt64)), (.double (0 : UInt64)), (.double (0 : UInt64)), (.double (0 : UInt64)), (.double (0 : UInt64)), (.double (0 : UInt64))] [(.int y0), (.int y1), (.int y2), (.int y3), (.int y4), (.int y5), (.int y6), (.int y7)] [(.int p0), (.int p1), (.int p2), (.int p3), (.int p4), (.int p5), (.int p6), (.int p7)]) :
    Met l Z (⟨"com/example/lucky_fork/luckyfork/model/GroupSums", "set", "(IDI)V"⟩ : MethodName) prog_120_method_4_code 6 none ({ frames := 0, cells := 0, slots := 0, locals := 0 } : Room) n0 #[(.ref a), (.int (1 : Int32)), (.double (0 : UInt64)), (.int cv)] h0 (fun v h => v = none ∧ Gt Z h n0 a r c p (4 : Int32) (2 : Int32) (2 : Int32) (0 : Int32) cb [(.double (0 : UInt64)), (.double (0 : UInt64)), (.double (0 : UInt64)), (.double (0 : UInt64)), (.double (0 : UInt64)), (.double (0 : UInt64)), (.double (0 : UInt64)), (.double (0 : UInt64))] [(.int y0), (.int y1), (.int y2), (.int y3), (.int y4), (.int cv), (.int y6), (.int y7)] [(.int p0), (.int (5 : Int32)), (.int p2), (.int p3), (.int p4), (.int p5), (.int p6), (.int p7)]) := by
  refine Met.of (Ls := #[.val (.ref a), .val (.int (1 : Int32)), .val (.double (0 : UInt64)), .second, .val (.int cv), .unset]) (plainFor_of_name pn_0) (fun m => by first | (simp [entryFrame, mkF, argsToLocals, Value.category, maxLocals]; done) | rfl) (fun κ w => ?_)
  replace w : Wk κ l Z "com/example/lucky_fork/luckyfork/model/GroupSums" "set" prog_120_method_4_code 6 none ({ frames := 0, cells := 0, slots := 0, locals := 0 } : Room) n0 h0 0 0 0 #[.val (.ref a), .val (.int (1 : Int32)), .val (.double (0 : UInt64)), .second, .val (.int cv), .unset] [] := w
  replace w := w.aloadN (q := 1) (v := (.ref a)) dp120m4_0 rfl rfl rfl
  replace w := w.getF (q := 4) (v := (.int (4 : Int32))) (hw _ (List.mem_of_getElem? (i := 13) rfl)) (S.1.2.1) dp120m4_1 rfl
  replace w := w.iloadN (q := 5) (v := (1 : Int32)) dp120m4_4 rfl rfl
  replace w := w.iadd (q := 6) (z := (5 : Int32)) dp120m4_5 (by decide) rfl
  replace w := w.istore (q := 8) (l' := #[.val (.ref a), .val (.int (1 : Int32)), .val (.double (0 : UInt64)), .second, .val (.int cv), .val (.int (5 : Int32))]) dp120m4_6 rfl rfl
  replace w := w.aloadN (q := 9) (v := (.ref a)) dp120m4_8 rfl rfl rfl
  replace w := w.getF (q := 12) (v := (.ref r)) (hw _ (List.mem_of_getElem? (i := 16) rfl)) (S.1.2.2.2.1) dp120m4_9 rfl
  replace w := w.iload (q := 14) (v := (5 : Int32)) dp120m4_12 rfl rfl
  replace w := w.dloadN (q := 15) (v := (0 : UInt64)) dp120m4_14 rfl rfl
  obtain ⟨h120, W121, w⟩ := w.stDl (q := 16) (S.2.1) 5 rfl (ltl rfl) (S.2.2.2.2.1.2.1) dp120m4_15 rfl
  replace S := S.setR W121
  replace S : Gt Z h120 n0 a r c p (4 : Int32) (2 : Int32) (1 : Int32) (0 : Int32) cb [(.double (0 : UInt64)), (.double (0 : UInt64)), (.double (0 : UInt64)), (.double (0 : UInt64)), (.double (0 : UInt64)), (.double (0 : UInt64)), (.double (0 : UInt64)), (.double (0 : UInt64))] [(.int y0), (.int y1), (.int y2), (.int y3), (.int y4), (.int y5), (.int y6), (.int y7)] [(.int p0), (.int p1), (.int p2), (.int p3), (.int p4), (.int p5), (.int p6), (.int p7)] := S
  replace w := w.aloadN (q := 17) (v := (.ref a)) dp120m4_16 rfl rfl rfl
  replace w := w.getF (q := 20) (v := (.ref c)) (hw _ (List.mem_of_getElem? (i := 19) rfl)) (S.1.2.2.2.2.1) dp120m4_17 rfl
  replace w := w.iload (q := 22) (v := (5 : Int32)) dp120m4_20 rfl rfl
  replace w := w.iload (q := 24) (v := cv) dp120m4_22 rfl rfl
  obtain ⟨h122, W123, w⟩ := w.stIl (q := 25) (S.2.2.1) 5 rfl (ltl rfl) (S.2.2.2.2.1.2.2.1) dp120m4_24 rfl
  replace S := S.setC W123
  replace S : Gt Z h122 n0 a r c p (4 : Int32) (2 : Int32) (1 : Int32) (0 : Int32) cb [(.double (0 : UInt64)), (.double (0 : UInt64)), (.double (0 : UInt64)), (.double (0 : UInt64)), (.double (0 : UInt64)), (.double (0 : UInt64)), (.double (0 : UInt64)), (.double (0 : UInt64))] [(.int y0), (.int y1), (.int y2), (.int y3), (.int y4), (.int cv), (.int y6), (.int y7)] [(.int p0), (.int p1), (.int p2), (.int p3), (.int p4), (.int p5), (.int p6), (.int p7)] := S
  replace w := w.aloadN (q := 26) (v := (.ref a)) dp120m4_25 rfl rfl rfl
  replace w := w.getF (q := 29) (v := (.int (0 : Int32))) (hw _ (List.mem_of_getElem? (i := 37) rfl)) (S.1.2.2.2.2.2.2.2.1) dp120m4_26 rfl
  obtain ⟨-, w⟩ := (w.ifEq (q := 33) (q' := 32) (xi := 0) dp120m4_29 rfl (by decide) (by decide) rfl).resolve_right (fun g => by have hc29 := g.1; revert hc29; decide)
  replace w := w.aloadN (q := 34) (v := (.ref a)) dp120m4_33 rfl rfl rfl
  replace w := w.getF (q := 37) (v := (.int (1 : Int32))) (hw _ (List.mem_of_getElem? (i := 35) rfl)) (S.1.2.2.2.2.2.2.1) dp120m4_34 rfl
  replace w := w.aloadN (q := 38) (v := (.ref a)) dp120m4_37 rfl rfl rfl
  replace w := w.getF (q := 41) (v := (.int (2 : Int32))) (hw _ (List.mem_of_getElem? (i := 44) rfl)) (S.1.2.2.1) dp120m4_38 rfl
  replace w := w.imul (q := 42) (z := (2 : Int32)) dp120m4_41 (by decide) rfl
  replace w := w.aloadN (q := 43) (v := (.ref a)) dp120m4_42 rfl rfl rfl
  replace w := w.getF (q := 46) (v := (.int (4 : Int32))) (hw _ (List.mem_of_getElem? (i := 13) rfl)) (S.1.2.1) dp120m4_43 rfl
  obtain ⟨-, w⟩ := (w.icmpLt (q := 55) (q' := 49) (xi := 2) (yi := 4) dp120m4_46 rfl rfl (by decide) (by decide) rfl).resolve_right (fun g => by have hc46 := g.1; revert hc46; decide)
  replace w := w.aloadN (q := 56) (v := (.ref a)) dp120m4_55 rfl rfl rfl
  replace w := w.getF (q := 59) (v := (.int (1 : Int32))) (hw _ (List.mem_of_getElem? (i := 35) rfl)) (S.1.2.2.2.2.2.2.1) dp120m4_56 rfl
  replace w := w.aloadN (q := 60) (v := (.ref a)) dp120m4_59 rfl rfl rfl
  replace w := w.getF (q := 63) (v := (.ref p)) (hw _ (List.mem_of_getElem? (i := 21) rfl)) (S.1.2.2.2.2.2.1) dp120m4_60 rfl
  replace w := w.lenl (q := 64) (z := 8) (S.2.2.2.1) rfl dp120m4_63 rfl
  obtain ⟨-, w⟩ := (w.icmpNe (q := 84) (q' := 67) (xi := 1) (yi := 8) dp120m4_64 rfl rfl (by decide) (by decide) rfl).resolve_right (fun g => by have hc64 := g.1; revert hc64; decide)
  replace w := w.aloadN (q := 85) (v := (.ref a)) dp120m4_84 rfl rfl rfl
  replace w := w.getF (q := 88) (v := (.ref p)) (hw _ (List.mem_of_getElem? (i := 21) rfl)) (S.1.2.2.2.2.2.1) dp120m4_85 rfl
  replace w := w.aloadN (q := 89) (v := (.ref a)) dp120m4_88 rfl rfl rfl
  replace w := w.dup (q := 90) dp120m4_89 rfl rfl
  replace w := w.getF (q := 93) (v := (.int (1 : Int32))) (hw _ (List.mem_of_getElem? (i := 35) rfl)) (S.1.2.2.2.2.2.2.1) dp120m4_90 rfl
  replace w := w.dupX1 (q := 94) dp120m4_93 rfl rfl rfl
  replace w := w.iconst (q := 95) (z := (1 : Int32)) dp120m4_94 (by decide) rfl
  replace w := w.iadd (q := 96) (z := (2 : Int32)) dp120m4_95 (by decide) rfl
  obtain ⟨h124, W125, w⟩ := w.putF (q := 99) (C := "com/example/lucky_fork/luckyfork/model/GroupSums") (hw _ (List.mem_of_getElem? (i := 35) rfl)) (S.1.2.2.2.2.2.2.1) (S.1.1) (Or.inl (hw _ (List.mem_of_getElem? (i := 36) rfl))) (hw _ (List.mem_of_getElem? (i := 5) rfl)) (ty := .int) (by decide) rfl rfl dp120m4_96 (S.2.2.2.2.1.1) rfl
  replace S := S.put_pendingCount hw W125
  replace w := w.iload (q := 101) (v := (5 : Int32)) dp120m4_99 rfl rfl
  obtain ⟨h126, W127, w⟩ := w.stIl (q := 102) (S.2.2.2.1) 1 rfl (ltl rfl) (S.2.2.2.2.1.2.2.2) dp120m4_101 rfl
  replace S := S.setP W127
  replace S : Gt Z h126 n0 a r c p (4 : Int32) (2 : Int32) (2 : Int32) (0 : Int32) cb [(.double (0 : UInt64)), (.double (0 : UInt64)), (.double (0 : UInt64)), (.double (0 : UInt64)), (.double (0 : UInt64)), (.double (0 : UInt64)), (.double (0 : UInt64)), (.double (0 : UInt64))] [(.int y0), (.int y1), (.int y2), (.int y3), (.int y4), (.int cv), (.int y6), (.int y7)] [(.int p0), (.int (5 : Int32)), (.int p2), (.int p3), (.int p4), (.int p5), (.int p6), (.int p7)] := S
  exact w.retV dp120m4_102 ⟨rfl, S⟩ (by decide) (by decide)
set_option maxRecDepth 65536 in
set_option maxHeartbeats 40000000 in
theorem own_set_4_2 (l : Launch) (Z : State) (a0 : Array Value) (hw : ∀ d ∈ tables_1, d.before a0 Z = true) (h0 : Heap) (n0 : Nat) (Z0 : n0 ≤ h0.size) (a r c p : Nat) (cb : Int32) (y0 : Int32) (y1 : Int32) (y2 : Int32) (y3 : Int32) (y4 : Int32) (y5 : Int32) (y6 : Int32) (y7 : Int32) (p0 : Int32) (p1 : Int32) (p2 : Int32) (p3 : Int32) (p4 : Int32) (p5 : Int32) (p6 : Int32) (p7 : Int32) (cv : Int32) (S : Gt Z h0 n0 a r c p (4 : Int32) (2 : Int32) (2 : Int32) (0 : Int32) cb [(.double (0 : UInt64)), (.double (0 : UInt64)), (.double (0 : UInt64)), (.double (0 : UInt64)), (.double (0 : UInt64)), (.double (0 : UInt64)), (.double (0 : UInt64)), (.double (0 : UInt64))] [(.int y0), (.int y1), (.int y2), (.int y3), (.int y4), (.int y5), (.int y6), (.int y7)] [(.int p0), (.int p1), (.int p2), (.int p3), (.int p4), (.int p5), (.int p6), (.int p7)]) :
    Met l Z (⟨"com/example/lucky_fork/luckyfork/model/GroupSums", "set", "(IDI)V"⟩ : MethodName) prog_120_method_4_code 6 none ({ frames := 0, cells := 0, slots := 0, locals := 0 } : Room) n0 #[(.ref a), (.int (2 : Int32)), (.double (0 : UInt64)), (.int cv)] h0 (fun v h => v = none ∧ Gt Z h n0 a r c p (4 : Int32) (2 : Int32) (2 : Int32) (1 : Int32) cb [(.double (0 : UInt64)), (.double (0 : UInt64)), (.double (0 : UInt64)), (.double (0 : UInt64)), (.double (0 : UInt64)), (.double (0 : UInt64)), (.double (0 : UInt64)), (.double (0 : UInt64))] [(.int y0), (.int y1), (.int y2), (.int y3), (.int y4), (.int y5), (.int cv), (.int y7)] [(.int p0), (.int p1), (.int p2), (.int p3), (.int p4), (.int p5), (.int p6), (.int p7)]) := by
  refine Met.of (Ls := #[.val (.ref a), .val (.int (2 : Int32)), .val (.double (0 : UInt64)), .second, .val (.int cv), .unset]) (plainFor_of_name pn_0) (fun m => by first | (simp [entryFrame, mkF, argsToLocals, Value.category, maxLocals]; done) | rfl) (fun κ w => ?_)
  replace w : Wk κ l Z "com/example/lucky_fork/luckyfork/model/GroupSums" "set" prog_120_method_4_code 6 none ({ frames := 0, cells := 0, slots := 0, locals := 0 } : Room) n0 h0 0 0 0 #[.val (.ref a), .val (.int (2 : Int32)), .val (.double (0 : UInt64)), .second, .val (.int cv), .unset] [] := w
  replace w := w.aloadN (q := 1) (v := (.ref a)) dp120m4_0 rfl rfl rfl
  replace w := w.getF (q := 4) (v := (.int (4 : Int32))) (hw _ (List.mem_of_getElem? (i := 13) rfl)) (S.1.2.1) dp120m4_1 rfl
  replace w := w.iloadN (q := 5) (v := (2 : Int32)) dp120m4_4 rfl rfl
  replace w := w.iadd (q := 6) (z := (6 : Int32)) dp120m4_5 (by decide) rfl
  replace w := w.istore (q := 8) (l' := #[.val (.ref a), .val (.int (2 : Int32)), .val (.double (0 : UInt64)), .second, .val (.int cv), .val (.int (6 : Int32))]) dp120m4_6 rfl rfl
  replace w := w.aloadN (q := 9) (v := (.ref a)) dp120m4_8 rfl rfl rfl
  replace w := w.getF (q := 12) (v := (.ref r)) (hw _ (List.mem_of_getElem? (i := 16) rfl)) (S.1.2.2.2.1) dp120m4_9 rfl
  replace w := w.iload (q := 14) (v := (6 : Int32)) dp120m4_12 rfl rfl
  replace w := w.dloadN (q := 15) (v := (0 : UInt64)) dp120m4_14 rfl rfl
  obtain ⟨h128, W129, w⟩ := w.stDl (q := 16) (S.2.1) 6 rfl (ltl rfl) (S.2.2.2.2.1.2.1) dp120m4_15 rfl
  replace S := S.setR W129
  replace S : Gt Z h128 n0 a r c p (4 : Int32) (2 : Int32) (2 : Int32) (0 : Int32) cb [(.double (0 : UInt64)), (.double (0 : UInt64)), (.double (0 : UInt64)), (.double (0 : UInt64)), (.double (0 : UInt64)), (.double (0 : UInt64)), (.double (0 : UInt64)), (.double (0 : UInt64))] [(.int y0), (.int y1), (.int y2), (.int y3), (.int y4), (.int y5), (.int y6), (.int y7)] [(.int p0), (.int p1), (.int p2), (.int p3), (.int p4), (.int p5), (.int p6), (.int p7)] := S
  replace w := w.aloadN (q := 17) (v := (.ref a)) dp120m4_16 rfl rfl rfl
  replace w := w.getF (q := 20) (v := (.ref c)) (hw _ (List.mem_of_getElem? (i := 19) rfl)) (S.1.2.2.2.2.1) dp120m4_17 rfl
  replace w := w.iload (q := 22) (v := (6 : Int32)) dp120m4_20 rfl rfl
  replace w := w.iload (q := 24) (v := cv) dp120m4_22 rfl rfl
  obtain ⟨h130, W131, w⟩ := w.stIl (q := 25) (S.2.2.1) 6 rfl (ltl rfl) (S.2.2.2.2.1.2.2.1) dp120m4_24 rfl
  replace S := S.setC W131
  replace S : Gt Z h130 n0 a r c p (4 : Int32) (2 : Int32) (2 : Int32) (0 : Int32) cb [(.double (0 : UInt64)), (.double (0 : UInt64)), (.double (0 : UInt64)), (.double (0 : UInt64)), (.double (0 : UInt64)), (.double (0 : UInt64)), (.double (0 : UInt64)), (.double (0 : UInt64))] [(.int y0), (.int y1), (.int y2), (.int y3), (.int y4), (.int y5), (.int cv), (.int y7)] [(.int p0), (.int p1), (.int p2), (.int p3), (.int p4), (.int p5), (.int p6), (.int p7)] := S
  replace w := w.aloadN (q := 26) (v := (.ref a)) dp120m4_25 rfl rfl rfl
  replace w := w.getF (q := 29) (v := (.int (0 : Int32))) (hw _ (List.mem_of_getElem? (i := 37) rfl)) (S.1.2.2.2.2.2.2.2.1) dp120m4_26 rfl
  obtain ⟨-, w⟩ := (w.ifEq (q := 33) (q' := 32) (xi := 0) dp120m4_29 rfl (by decide) (by decide) rfl).resolve_right (fun g => by have hc29 := g.1; revert hc29; decide)
  replace w := w.aloadN (q := 34) (v := (.ref a)) dp120m4_33 rfl rfl rfl
  replace w := w.getF (q := 37) (v := (.int (2 : Int32))) (hw _ (List.mem_of_getElem? (i := 35) rfl)) (S.1.2.2.2.2.2.2.1) dp120m4_34 rfl
  replace w := w.aloadN (q := 38) (v := (.ref a)) dp120m4_37 rfl rfl rfl
  replace w := w.getF (q := 41) (v := (.int (2 : Int32))) (hw _ (List.mem_of_getElem? (i := 44) rfl)) (S.1.2.2.1) dp120m4_38 rfl
  replace w := w.imul (q := 42) (z := (4 : Int32)) dp120m4_41 (by decide) rfl
  replace w := w.aloadN (q := 43) (v := (.ref a)) dp120m4_42 rfl rfl rfl
  replace w := w.getF (q := 46) (v := (.int (4 : Int32))) (hw _ (List.mem_of_getElem? (i := 13) rfl)) (S.1.2.1) dp120m4_43 rfl
  obtain ⟨-, w⟩ := (w.icmpLt (q := 55) (q' := 49) (xi := 4) (yi := 4) dp120m4_46 rfl rfl (by decide) (by decide) rfl).resolve_left (fun g => by have hc46 := g.1; revert hc46; decide)
  replace w := w.aloadN (q := 50) (v := (.ref a)) dp120m4_49 rfl rfl rfl
  replace w := w.iconst (q := 51) (z := (1 : Int32)) dp120m4_50 (by decide) rfl
  obtain ⟨h132, W133, w⟩ := w.putF (q := 54) (C := "com/example/lucky_fork/luckyfork/model/GroupSums") (hw _ (List.mem_of_getElem? (i := 37) rfl)) (S.1.2.2.2.2.2.2.2.1) (S.1.1) (Or.inl (hw _ (List.mem_of_getElem? (i := 38) rfl))) (hw _ (List.mem_of_getElem? (i := 5) rfl)) (ty := .boolean) (by decide) (by decide) (by decide) dp120m4_51 (S.2.2.2.2.1.1) rfl
  replace S := S.put_rebuild hw W133
  exact w.retV dp120m4_54 ⟨rfl, S⟩ (by decide) (by decide)
set_option maxRecDepth 65536 in
set_option maxHeartbeats 40000000 in
theorem own_set_4_3 (l : Launch) (Z : State) (a0 : Array Value) (hw : ∀ d ∈ tables_1, d.before a0 Z = true) (h0 : Heap) (n0 : Nat) (Z0 : n0 ≤ h0.size) (a r c p : Nat) (cb : Int32) (y0 : Int32) (y1 : Int32) (y2 : Int32) (y3 : Int32) (y4 : Int32) (y5 : Int32) (y6 : Int32) (y7 : Int32) (p0 : Int32) (p1 : Int32) (p2 : Int32) (p3 : Int32) (p4 : Int32) (p5 : Int32) (p6 : Int32) (p7 : Int32) (cv : Int32) (S : Gt Z h0 n0 a r c p (4 : Int32) (2 : Int32) (2 : Int32) (1 : Int32) cb [(.double (0 : UInt64)), (.double (0 : UInt64)), (.double (0 : UInt64)), (.double (0 : UInt64)), (.double (0 : UInt64)), (.double (0 : UInt64)), (.double (0 : UInt64)), (.double (0 : UInt64))] [(.int y0), (.int y1), (.int y2), (.int y3), (.int y4), (.int y5), (.int y6), (.int y7)] [(.int p0), (.int p1), (.int p2), (.int p3), (.int p4), (.int p5), (.int p6), (.int p7)]) :
    Met l Z (⟨"com/example/lucky_fork/luckyfork/model/GroupSums", "set", "(IDI)V"⟩ : MethodName) prog_120_method_4_code 6 none ({ frames := 0, cells := 0, slots := 0, locals := 0 } : Room) n0 #[(.ref a), (.int (3 : Int32)), (.double (0 : UInt64)), (.int cv)] h0 (fun v h => v = none ∧ Gt Z h n0 a r c p (4 : Int32) (2 : Int32) (2 : Int32) (1 : Int32) cb [(.double (0 : UInt64)), (.double (0 : UInt64)), (.double (0 : UInt64)), (.double (0 : UInt64)), (.double (0 : UInt64)), (.double (0 : UInt64)), (.double (0 : UInt64)), (.double (0 : UInt64))] [(.int y0), (.int y1), (.int y2), (.int y3), (.int y4), (.int y5), (.int y6), (.int cv)] [(.int p0), (.int p1), (.int p2), (.int p3), (.int p4), (.int p5), (.int p6), (.int p7)]) := by
  refine Met.of (Ls := #[.val (.ref a), .val (.int (3 : Int32)), .val (.double (0 : UInt64)), .second, .val (.int cv), .unset]) (plainFor_of_name pn_0) (fun m => by first | (simp [entryFrame, mkF, argsToLocals, Value.category, maxLocals]; done) | rfl) (fun κ w => ?_)
  replace w : Wk κ l Z "com/example/lucky_fork/luckyfork/model/GroupSums" "set" prog_120_method_4_code 6 none ({ frames := 0, cells := 0, slots := 0, locals := 0 } : Room) n0 h0 0 0 0 #[.val (.ref a), .val (.int (3 : Int32)), .val (.double (0 : UInt64)), .second, .val (.int cv), .unset] [] := w
  replace w := w.aloadN (q := 1) (v := (.ref a)) dp120m4_0 rfl rfl rfl
  replace w := w.getF (q := 4) (v := (.int (4 : Int32))) (hw _ (List.mem_of_getElem? (i := 13) rfl)) (S.1.2.1) dp120m4_1 rfl
  replace w := w.iloadN (q := 5) (v := (3 : Int32)) dp120m4_4 rfl rfl
  replace w := w.iadd (q := 6) (z := (7 : Int32)) dp120m4_5 (by decide) rfl
  replace w := w.istore (q := 8) (l' := #[.val (.ref a), .val (.int (3 : Int32)), .val (.double (0 : UInt64)), .second, .val (.int cv), .val (.int (7 : Int32))]) dp120m4_6 rfl rfl
  replace w := w.aloadN (q := 9) (v := (.ref a)) dp120m4_8 rfl rfl rfl
  replace w := w.getF (q := 12) (v := (.ref r)) (hw _ (List.mem_of_getElem? (i := 16) rfl)) (S.1.2.2.2.1) dp120m4_9 rfl
  replace w := w.iload (q := 14) (v := (7 : Int32)) dp120m4_12 rfl rfl
  replace w := w.dloadN (q := 15) (v := (0 : UInt64)) dp120m4_14 rfl rfl
  obtain ⟨h134, W135, w⟩ := w.stDl (q := 16) (S.2.1) 7 rfl (ltl rfl) (S.2.2.2.2.1.2.1) dp120m4_15 rfl
  replace S := S.setR W135
  replace S : Gt Z h134 n0 a r c p (4 : Int32) (2 : Int32) (2 : Int32) (1 : Int32) cb [(.double (0 : UInt64)), (.double (0 : UInt64)), (.double (0 : UInt64)), (.double (0 : UInt64)), (.double (0 : UInt64)), (.double (0 : UInt64)), (.double (0 : UInt64)), (.double (0 : UInt64))] [(.int y0), (.int y1), (.int y2), (.int y3), (.int y4), (.int y5), (.int y6), (.int y7)] [(.int p0), (.int p1), (.int p2), (.int p3), (.int p4), (.int p5), (.int p6), (.int p7)] := S
  replace w := w.aloadN (q := 17) (v := (.ref a)) dp120m4_16 rfl rfl rfl
  replace w := w.getF (q := 20) (v := (.ref c)) (hw _ (List.mem_of_getElem? (i := 19) rfl)) (S.1.2.2.2.2.1) dp120m4_17 rfl
  replace w := w.iload (q := 22) (v := (7 : Int32)) dp120m4_20 rfl rfl
  replace w := w.iload (q := 24) (v := cv) dp120m4_22 rfl rfl
  obtain ⟨h136, W137, w⟩ := w.stIl (q := 25) (S.2.2.1) 7 rfl (ltl rfl) (S.2.2.2.2.1.2.2.1) dp120m4_24 rfl
  replace S := S.setC W137
  replace S : Gt Z h136 n0 a r c p (4 : Int32) (2 : Int32) (2 : Int32) (1 : Int32) cb [(.double (0 : UInt64)), (.double (0 : UInt64)), (.double (0 : UInt64)), (.double (0 : UInt64)), (.double (0 : UInt64)), (.double (0 : UInt64)), (.double (0 : UInt64)), (.double (0 : UInt64))] [(.int y0), (.int y1), (.int y2), (.int y3), (.int y4), (.int y5), (.int y6), (.int cv)] [(.int p0), (.int p1), (.int p2), (.int p3), (.int p4), (.int p5), (.int p6), (.int p7)] := S
  replace w := w.aloadN (q := 26) (v := (.ref a)) dp120m4_25 rfl rfl rfl
  replace w := w.getF (q := 29) (v := (.int (1 : Int32))) (hw _ (List.mem_of_getElem? (i := 37) rfl)) (S.1.2.2.2.2.2.2.2.1) dp120m4_26 rfl
  obtain ⟨-, w⟩ := (w.ifEq (q := 33) (q' := 32) (xi := 1) dp120m4_29 rfl (by decide) (by decide) rfl).resolve_left (fun g => by have hc29 := g.1; revert hc29; decide)
  exact w.retV dp120m4_32 ⟨rfl, S⟩ (by decide) (by decide)
set_option maxRecDepth 65536 in
set_option maxHeartbeats 40000000 in
theorem own_settle_1 (l : Launch) (Z : State) (a0 : Array Value) (hw : ∀ d ∈ tables_1, d.before a0 Z = true) (h0 : Heap) (n0 : Nat) (Z0 : n0 ≤ h0.size) (a r c p : Nat) (cb : Int32) (y0 : Int32) (y1 : Int32) (p1 : Int32) (p2 : Int32) (p3 : Int32) (p4 : Int32) (p5 : Int32) (p6 : Int32) (p7 : Int32) (S : Gt Z h0 n0 a r c p (1 : Int32) (0 : Int32) (1 : Int32) (0 : Int32) cb [(.double (0 : UInt64)), (.double (0 : UInt64))] [(.int y0), (.int y1)] [(.int (1 : Int32)), (.int p1), (.int p2), (.int p3), (.int p4), (.int p5), (.int p6), (.int p7)]) :
    Met l Z (⟨"com/example/lucky_fork/luckyfork/model/GroupSums", "settle", "()V"⟩ : MethodName) prog_120_method_11_code 3 none ({ frames := 1, cells := 0, slots := 0, locals := 13 } : Room) n0 #[(.ref a)] h0 (fun v h => v = none ∧ Gt Z h n0 a r c p (1 : Int32) (0 : Int32) (0 : Int32) (0 : Int32) cb [(.double (0 : UInt64)), (.double (0 : UInt64))] [(.int y0), (.int y1)] [(.int (1 : Int32)), (.int p1), (.int p2), (.int p3), (.int p4), (.int p5), (.int p6), (.int p7)]) := by
  refine Met.of (Ls := #[.val (.ref a), .unset, .unset]) (plainFor_of_name pn_0) (fun m => by first | (simp [entryFrame, mkF, argsToLocals, Value.category, maxLocals]; done) | rfl) (fun κ w => ?_)
  replace w : Wk κ l Z "com/example/lucky_fork/luckyfork/model/GroupSums" "settle" prog_120_method_11_code 3 none ({ frames := 1, cells := 0, slots := 0, locals := 13 } : Room) n0 h0 0 0 0 #[.val (.ref a), .unset, .unset] [] := w
  replace w := w.aloadN (q := 1) (v := (.ref a)) dp120m11_0 rfl rfl rfl
  replace w := w.getF (q := 4) (v := (.int (0 : Int32))) (hw _ (List.mem_of_getElem? (i := 37) rfl)) (S.1.2.2.2.2.2.2.2.1) dp120m11_1 rfl
  obtain ⟨-, w⟩ := (w.ifEq (q := 41) (q' := 7) (xi := 0) dp120m11_4 rfl (by decide) (by decide) rfl).resolve_right (fun g => by have hc4 := g.1; revert hc4; decide)
  replace w := w.iconst (q := 42) (z := (0 : Int32)) dp120m11_41 (by decide) rfl
  replace w := w.istoreN (q := 43) (l' := #[.val (.ref a), .val (.int (0 : Int32)), .unset]) dp120m11_42 rfl rfl
  replace w := w.iloadN (q := 44) (v := (0 : Int32)) dp120m11_43 rfl rfl
  replace w := w.aloadN (q := 45) (v := (.ref a)) dp120m11_44 rfl rfl rfl
  replace w := w.getF (q := 48) (v := (.int (1 : Int32))) (hw _ (List.mem_of_getElem? (i := 35) rfl)) (S.1.2.2.2.2.2.2.1) dp120m11_45 rfl
  obtain ⟨-, w⟩ := (w.icmpGe (q := 83) (q' := 51) (xi := 0) (yi := 1) dp120m11_48 rfl rfl (by decide) (by decide) rfl).resolve_left (fun g => by have hc48 := g.1; revert hc48; decide)
  replace w := w.aloadN (q := 52) (v := (.ref a)) dp120m11_51 rfl rfl rfl
  replace w := w.getF (q := 55) (v := (.ref p)) (hw _ (List.mem_of_getElem? (i := 21) rfl)) (S.1.2.2.2.2.2.1) dp120m11_52 rfl
  replace w := w.iloadN (q := 56) (v := (0 : Int32)) dp120m11_55 rfl rfl
  replace w := w.ldIl (q := 57) (v := (.int (1 : Int32))) (S.2.2.2.1) 0 rfl rfl dp120m11_56 rfl
  replace w := w.iconst (q := 58) (z := (1 : Int32)) dp120m11_57 (by decide) rfl
  replace w := w.ishr (q := 59) (z := (0 : Int32)) dp120m11_58 (by decide) rfl
  replace w := w.istoreN (q := 60) (l' := #[.val (.ref a), .val (.int (0 : Int32)), .val (.int (0 : Int32))]) dp120m11_59 rfl rfl
  replace w := w.iloadN (q := 61) (v := (0 : Int32)) dp120m11_60 rfl rfl
  replace w := w.iconst (q := 62) (z := (1 : Int32)) dp120m11_61 (by decide) rfl
  obtain ⟨-, w⟩ := (w.icmpLt (q := 77) (q' := 65) (xi := 0) (yi := 1) dp120m11_62 rfl rfl (by decide) (by decide) rfl).resolve_right (fun g => by have hc62 := g.1; revert hc62; decide)
  replace w := w.iinc (q := 80) (z := (1 : Int32)) (l' := #[.val (.ref a), .val (.int (1 : Int32)), .val (.int (0 : Int32))]) dp120m11_77 rfl (by decide) rfl rfl
  replace w := w.goto (q := 43) dp120m11_80 (by decide) (by decide)
  replace w := w.iloadN (q := 44) (v := (1 : Int32)) dp120m11_43 rfl rfl
  replace w := w.aloadN (q := 45) (v := (.ref a)) dp120m11_44 rfl rfl rfl
  replace w := w.getF (q := 48) (v := (.int (1 : Int32))) (hw _ (List.mem_of_getElem? (i := 35) rfl)) (S.1.2.2.2.2.2.2.1) dp120m11_45 rfl
  obtain ⟨-, w⟩ := (w.icmpGe (q := 83) (q' := 51) (xi := 1) (yi := 1) dp120m11_48 rfl rfl (by decide) (by decide) rfl).resolve_right (fun g => by have hc48 := g.1; revert hc48; decide)
  replace w := w.aloadN (q := 84) (v := (.ref a)) dp120m11_83 rfl rfl rfl
  replace w := w.iconst (q := 85) (z := (0 : Int32)) dp120m11_84 (by decide) rfl
  obtain ⟨h138, W139, w⟩ := w.putF (q := 88) (C := "com/example/lucky_fork/luckyfork/model/GroupSums") (hw _ (List.mem_of_getElem? (i := 35) rfl)) (S.1.2.2.2.2.2.2.1) (S.1.1) (Or.inl (hw _ (List.mem_of_getElem? (i := 36) rfl))) (hw _ (List.mem_of_getElem? (i := 5) rfl)) (ty := .int) (by decide) rfl rfl dp120m11_85 (S.2.2.2.2.1.1) rfl
  replace S := S.put_pendingCount hw W139
  exact w.retV dp120m11_88 ⟨rfl, S⟩ (by decide) (by decide)
set_option maxRecDepth 65536 in
set_option maxHeartbeats 40000000 in
theorem own_settle_2 (l : Launch) (Z : State) (a0 : Array Value) (hw : ∀ d ∈ tables_1, d.before a0 Z = true) (h0 : Heap) (n0 : Nat) (Z0 : n0 ≤ h0.size) (a r c p : Nat) (cb : Int32) (y0 : Int32) (y1 : Int32) (y2 : Int32) (y3 : Int32) (p2 : Int32) (p3 : Int32) (p4 : Int32) (p5 : Int32) (p6 : Int32) (p7 : Int32) (S : Gt Z h0 n0 a r c p (2 : Int32) (1 : Int32) (2 : Int32) (0 : Int32) cb [(.double (0 : UInt64)), (.double (0 : UInt64)), (.double (0 : UInt64)), (.double (0 : UInt64))] [(.int y0), (.int y1), (.int y2), (.int y3)] [(.int (2 : Int32)), (.int (3 : Int32)), (.int p2), (.int p3), (.int p4), (.int p5), (.int p6), (.int p7)]) :
    Met l Z (⟨"com/example/lucky_fork/luckyfork/model/GroupSums", "settle", "()V"⟩ : MethodName) prog_120_method_11_code 3 none ({ frames := 1, cells := 0, slots := 0, locals := 13 } : Room) n0 #[(.ref a)] h0 (fun v h => v = none ∧ Gt Z h n0 a r c p (2 : Int32) (1 : Int32) (0 : Int32) (0 : Int32) cb [(.double (0 : UInt64)), (.double (0 : UInt64)), (.double (0 : UInt64)), (.double (0 : UInt64))] [(.int y0), (.int (y2 + y3)), (.int y2), (.int y3)] [(.int (2 : Int32)), (.int (3 : Int32)), (.int p2), (.int p3), (.int p4), (.int p5), (.int p6), (.int p7)]) := by
  refine Met.of (Ls := #[.val (.ref a), .unset, .unset]) (plainFor_of_name pn_0) (fun m => by first | (simp [entryFrame, mkF, argsToLocals, Value.category, maxLocals]; done) | rfl) (fun κ w => ?_)
  replace w : Wk κ l Z "com/example/lucky_fork/luckyfork/model/GroupSums" "settle" prog_120_method_11_code 3 none ({ frames := 1, cells := 0, slots := 0, locals := 13 } : Room) n0 h0 0 0 0 #[.val (.ref a), .unset, .unset] [] := w
  replace w := w.aloadN (q := 1) (v := (.ref a)) dp120m11_0 rfl rfl rfl
  replace w := w.getF (q := 4) (v := (.int (0 : Int32))) (hw _ (List.mem_of_getElem? (i := 37) rfl)) (S.1.2.2.2.2.2.2.2.1) dp120m11_1 rfl
  obtain ⟨-, w⟩ := (w.ifEq (q := 41) (q' := 7) (xi := 0) dp120m11_4 rfl (by decide) (by decide) rfl).resolve_right (fun g => by have hc4 := g.1; revert hc4; decide)
  replace w := w.iconst (q := 42) (z := (0 : Int32)) dp120m11_41 (by decide) rfl
  replace w := w.istoreN (q := 43) (l' := #[.val (.ref a), .val (.int (0 : Int32)), .unset]) dp120m11_42 rfl rfl
  replace w := w.iloadN (q := 44) (v := (0 : Int32)) dp120m11_43 rfl rfl
  replace w := w.aloadN (q := 45) (v := (.ref a)) dp120m11_44 rfl rfl rfl
  replace w := w.getF (q := 48) (v := (.int (2 : Int32))) (hw _ (List.mem_of_getElem? (i := 35) rfl)) (S.1.2.2.2.2.2.2.1) dp120m11_45 rfl
  obtain ⟨-, w⟩ := (w.icmpGe (q := 83) (q' := 51) (xi := 0) (yi := 2) dp120m11_48 rfl rfl (by decide) (by decide) rfl).resolve_left (fun g => by have hc48 := g.1; revert hc48; decide)
  replace w := w.aloadN (q := 52) (v := (.ref a)) dp120m11_51 rfl rfl rfl
  replace w := w.getF (q := 55) (v := (.ref p)) (hw _ (List.mem_of_getElem? (i := 21) rfl)) (S.1.2.2.2.2.2.1) dp120m11_52 rfl
  replace w := w.iloadN (q := 56) (v := (0 : Int32)) dp120m11_55 rfl rfl
  replace w := w.ldIl (q := 57) (v := (.int (2 : Int32))) (S.2.2.2.1) 0 rfl rfl dp120m11_56 rfl
  replace w := w.iconst (q := 58) (z := (1 : Int32)) dp120m11_57 (by decide) rfl
  replace w := w.ishr (q := 59) (z := (1 : Int32)) dp120m11_58 (by decide) rfl
  replace w := w.istoreN (q := 60) (l' := #[.val (.ref a), .val (.int (0 : Int32)), .val (.int (1 : Int32))]) dp120m11_59 rfl rfl
  replace w := w.iloadN (q := 61) (v := (1 : Int32)) dp120m11_60 rfl rfl
  replace w := w.iconst (q := 62) (z := (1 : Int32)) dp120m11_61 (by decide) rfl
  obtain ⟨-, w⟩ := (w.icmpLt (q := 77) (q' := 65) (xi := 1) (yi := 1) dp120m11_62 rfl rfl (by decide) (by decide) rfl).resolve_left (fun g => by have hc62 := g.1; revert hc62; decide)
  replace w := w.aloadN (q := 66) (v := (.ref a)) dp120m11_65 rfl rfl rfl
  replace w := w.iloadN (q := 67) (v := (1 : Int32)) dp120m11_66 rfl rfl
  obtain ⟨_, h140, ⟨rfl, S⟩, w⟩ := w.callP (a := a) (y := (⟨"com/example/lucky_fork/luckyfork/model/GroupSums", "addUp", "(I)V"⟩ : MethodName)) (argsL := [(.int (1 : Int32))]) (rest := []) (own_au_2_1 l Z a0 hw _ n0 S.z0 a r c p (2 : Int32) (1 : Int32) (2 : Int32) (0 : Int32) cb y0 y1 y2 y3 (2 : Int32) (3 : Int32) p2 p3 p4 p5 p6 p7  S ) (S.1.1) (hw _ (List.mem_of_getElem? (i := 68) rfl)) (hw _ (List.mem_of_getElem? (i := 70) rfl)) (hw _ (List.mem_of_getElem? (i := 5) rfl)) (hw _ (List.mem_of_getElem? (i := 69) rfl)) (hw _ (List.mem_of_getElem? (i := 6) rfl)) (hw _ (List.mem_of_getElem? (i := 71) rfl)) (by decide) dp120m11_67 (lenOf pd_3 rfl) rfl rfl (by decide) (W := 0) (Nat.le_of_eq rfl) (by decide) (by decide) (by decide) (q := 70) rfl
  replace w := w [] rfl
  replace w := w.iloadN (q := 71) (v := (1 : Int32)) dp120m11_70 rfl rfl
  replace w := w.iconst (q := 72) (z := (1 : Int32)) dp120m11_71 (by decide) rfl
  replace w := w.ishr (q := 73) (z := (0 : Int32)) dp120m11_72 (by decide) rfl
  replace w := w.istoreN (q := 74) (l' := #[.val (.ref a), .val (.int (0 : Int32)), .val (.int (0 : Int32))]) dp120m11_73 rfl rfl
  replace w := w.goto (q := 60) dp120m11_74 (by decide) (by decide)
  replace w := w.iloadN (q := 61) (v := (0 : Int32)) dp120m11_60 rfl rfl
  replace w := w.iconst (q := 62) (z := (1 : Int32)) dp120m11_61 (by decide) rfl
  obtain ⟨-, w⟩ := (w.icmpLt (q := 77) (q' := 65) (xi := 0) (yi := 1) dp120m11_62 rfl rfl (by decide) (by decide) rfl).resolve_right (fun g => by have hc62 := g.1; revert hc62; decide)
  replace w := w.iinc (q := 80) (z := (1 : Int32)) (l' := #[.val (.ref a), .val (.int (1 : Int32)), .val (.int (0 : Int32))]) dp120m11_77 rfl (by decide) rfl rfl
  replace w := w.goto (q := 43) dp120m11_80 (by decide) (by decide)
  replace w := w.iloadN (q := 44) (v := (1 : Int32)) dp120m11_43 rfl rfl
  replace w := w.aloadN (q := 45) (v := (.ref a)) dp120m11_44 rfl rfl rfl
  replace w := w.getF (q := 48) (v := (.int (2 : Int32))) (hw _ (List.mem_of_getElem? (i := 35) rfl)) (S.1.2.2.2.2.2.2.1) dp120m11_45 rfl
  obtain ⟨-, w⟩ := (w.icmpGe (q := 83) (q' := 51) (xi := 1) (yi := 2) dp120m11_48 rfl rfl (by decide) (by decide) rfl).resolve_left (fun g => by have hc48 := g.1; revert hc48; decide)
  replace w := w.aloadN (q := 52) (v := (.ref a)) dp120m11_51 rfl rfl rfl
  replace w := w.getF (q := 55) (v := (.ref p)) (hw _ (List.mem_of_getElem? (i := 21) rfl)) (S.1.2.2.2.2.2.1) dp120m11_52 rfl
  replace w := w.iloadN (q := 56) (v := (1 : Int32)) dp120m11_55 rfl rfl
  replace w := w.ldIl (q := 57) (v := (.int (3 : Int32))) (S.2.2.2.1) 1 rfl rfl dp120m11_56 rfl
  replace w := w.iconst (q := 58) (z := (1 : Int32)) dp120m11_57 (by decide) rfl
  replace w := w.ishr (q := 59) (z := (1 : Int32)) dp120m11_58 (by decide) rfl
  replace w := w.istoreN (q := 60) (l' := #[.val (.ref a), .val (.int (1 : Int32)), .val (.int (1 : Int32))]) dp120m11_59 rfl rfl
  replace w := w.iloadN (q := 61) (v := (1 : Int32)) dp120m11_60 rfl rfl
  replace w := w.iconst (q := 62) (z := (1 : Int32)) dp120m11_61 (by decide) rfl
  obtain ⟨-, w⟩ := (w.icmpLt (q := 77) (q' := 65) (xi := 1) (yi := 1) dp120m11_62 rfl rfl (by decide) (by decide) rfl).resolve_left (fun g => by have hc62 := g.1; revert hc62; decide)
  replace w := w.aloadN (q := 66) (v := (.ref a)) dp120m11_65 rfl rfl rfl
  replace w := w.iloadN (q := 67) (v := (1 : Int32)) dp120m11_66 rfl rfl
  obtain ⟨_, h141, ⟨rfl, S⟩, w⟩ := w.callP (a := a) (y := (⟨"com/example/lucky_fork/luckyfork/model/GroupSums", "addUp", "(I)V"⟩ : MethodName)) (argsL := [(.int (1 : Int32))]) (rest := []) (own_au_2_1 l Z a0 hw _ n0 S.z0 a r c p (2 : Int32) (1 : Int32) (2 : Int32) (0 : Int32) cb y0 (y2 + y3) y2 y3 (2 : Int32) (3 : Int32) p2 p3 p4 p5 p6 p7  S ) (S.1.1) (hw _ (List.mem_of_getElem? (i := 68) rfl)) (hw _ (List.mem_of_getElem? (i := 70) rfl)) (hw _ (List.mem_of_getElem? (i := 5) rfl)) (hw _ (List.mem_of_getElem? (i := 69) rfl)) (hw _ (List.mem_of_getElem? (i := 6) rfl)) (hw _ (List.mem_of_getElem? (i := 71) rfl)) (by decide) dp120m11_67 (lenOf pd_3 rfl) rfl rfl (by decide) (W := 0) (Nat.le_of_eq rfl) (by decide) (by decide) (by decide) (q := 70) rfl
  replace w := w [] rfl
  replace w := w.iloadN (q := 71) (v := (1 : Int32)) dp120m11_70 rfl rfl
  replace w := w.iconst (q := 72) (z := (1 : Int32)) dp120m11_71 (by decide) rfl
  replace w := w.ishr (q := 73) (z := (0 : Int32)) dp120m11_72 (by decide) rfl
  replace w := w.istoreN (q := 74) (l' := #[.val (.ref a), .val (.int (1 : Int32)), .val (.int (0 : Int32))]) dp120m11_73 rfl rfl
  replace w := w.goto (q := 60) dp120m11_74 (by decide) (by decide)
  replace w := w.iloadN (q := 61) (v := (0 : Int32)) dp120m11_60 rfl rfl
  replace w := w.iconst (q := 62) (z := (1 : Int32)) dp120m11_61 (by decide) rfl
  obtain ⟨-, w⟩ := (w.icmpLt (q := 77) (q' := 65) (xi := 0) (yi := 1) dp120m11_62 rfl rfl (by decide) (by decide) rfl).resolve_right (fun g => by have hc62 := g.1; revert hc62; decide)
  replace w := w.iinc (q := 80) (z := (2 : Int32)) (l' := #[.val (.ref a), .val (.int (2 : Int32)), .val (.int (0 : Int32))]) dp120m11_77 rfl (by decide) rfl rfl
  replace w := w.goto (q := 43) dp120m11_80 (by decide) (by decide)
  replace w := w.iloadN (q := 44) (v := (2 : Int32)) dp120m11_43 rfl rfl
  replace w := w.aloadN (q := 45) (v := (.ref a)) dp120m11_44 rfl rfl rfl
  replace w := w.getF (q := 48) (v := (.int (2 : Int32))) (hw _ (List.mem_of_getElem? (i := 35) rfl)) (S.1.2.2.2.2.2.2.1) dp120m11_45 rfl
  obtain ⟨-, w⟩ := (w.icmpGe (q := 83) (q' := 51) (xi := 2) (yi := 2) dp120m11_48 rfl rfl (by decide) (by decide) rfl).resolve_right (fun g => by have hc48 := g.1; revert hc48; decide)
  replace w := w.aloadN (q := 84) (v := (.ref a)) dp120m11_83 rfl rfl rfl
  replace w := w.iconst (q := 85) (z := (0 : Int32)) dp120m11_84 (by decide) rfl
  obtain ⟨h142, W143, w⟩ := w.putF (q := 88) (C := "com/example/lucky_fork/luckyfork/model/GroupSums") (hw _ (List.mem_of_getElem? (i := 35) rfl)) (S.1.2.2.2.2.2.2.1) (S.1.1) (Or.inl (hw _ (List.mem_of_getElem? (i := 36) rfl))) (hw _ (List.mem_of_getElem? (i := 5) rfl)) (ty := .int) (by decide) rfl rfl dp120m11_85 (S.2.2.2.2.1.1) rfl
  replace S := S.put_pendingCount hw W143
  exact w.retV dp120m11_88 ⟨rfl, S⟩ (by decide) (by decide)
set_option maxRecDepth 65536 in
set_option maxHeartbeats 40000000 in
theorem own_settle_4 (l : Launch) (Z : State) (a0 : Array Value) (hw : ∀ d ∈ tables_1, d.before a0 Z = true) (h0 : Heap) (n0 : Nat) (Z0 : n0 ≤ h0.size) (a r c p : Nat) (cb : Int32) (y0 : Int32) (y1 : Int32) (y2 : Int32) (y3 : Int32) (y4 : Int32) (y5 : Int32) (y6 : Int32) (y7 : Int32) (p0 : Int32) (p1 : Int32) (p2 : Int32) (p3 : Int32) (p4 : Int32) (p5 : Int32) (p6 : Int32) (p7 : Int32) (S : Gt Z h0 n0 a r c p (4 : Int32) (2 : Int32) (2 : Int32) (1 : Int32) cb [(.double (0 : UInt64)), (.double (0 : UInt64)), (.double (0 : UInt64)), (.double (0 : UInt64)), (.double (0 : UInt64)), (.double (0 : UInt64)), (.double (0 : UInt64)), (.double (0 : UInt64))] [(.int y0), (.int y1), (.int y2), (.int y3), (.int y4), (.int y5), (.int y6), (.int y7)] [(.int p0), (.int p1), (.int p2), (.int p3), (.int p4), (.int p5), (.int p6), (.int p7)]) :
    Met l Z (⟨"com/example/lucky_fork/luckyfork/model/GroupSums", "settle", "()V"⟩ : MethodName) prog_120_method_11_code 3 none ({ frames := 1, cells := 0, slots := 0, locals := 13 } : Room) n0 #[(.ref a)] h0 (fun v h => v = none ∧ Gt Z h n0 a r c p (4 : Int32) (2 : Int32) (0 : Int32) (0 : Int32) cb [(.double (0 : UInt64)), (.double (0 : UInt64)), (.double (0 : UInt64)), (.double (0 : UInt64)), (.double (0 : UInt64)), (.double (0 : UInt64)), (.double (0 : UInt64)), (.double (0 : UInt64))] [(.int y0), (.int ((y4 + y5) + (y6 + y7))), (.int (y4 + y5)), (.int (y6 + y7)), (.int y4), (.int y5), (.int y6), (.int y7)] [(.int p0), (.int p1), (.int p2), (.int p3), (.int p4), (.int p5), (.int p6), (.int p7)]) := by
  refine Met.of (Ls := #[.val (.ref a), .unset, .unset]) (plainFor_of_name pn_0) (fun m => by first | (simp [entryFrame, mkF, argsToLocals, Value.category, maxLocals]; done) | rfl) (fun κ w => ?_)
  replace w : Wk κ l Z "com/example/lucky_fork/luckyfork/model/GroupSums" "settle" prog_120_method_11_code 3 none ({ frames := 1, cells := 0, slots := 0, locals := 13 } : Room) n0 h0 0 0 0 #[.val (.ref a), .unset, .unset] [] := w
  replace w := w.aloadN (q := 1) (v := (.ref a)) dp120m11_0 rfl rfl rfl
  replace w := w.getF (q := 4) (v := (.int (1 : Int32))) (hw _ (List.mem_of_getElem? (i := 37) rfl)) (S.1.2.2.2.2.2.2.2.1) dp120m11_1 rfl
  obtain ⟨-, w⟩ := (w.ifEq (q := 41) (q' := 7) (xi := 1) dp120m11_4 rfl (by decide) (by decide) rfl).resolve_left (fun g => by have hc4 := g.1; revert hc4; decide)
  replace w := w.aloadN (q := 8) (v := (.ref a)) dp120m11_7 rfl rfl rfl
  replace w := w.getF (q := 11) (v := (.int (4 : Int32))) (hw _ (List.mem_of_getElem? (i := 13) rfl)) (S.1.2.1) dp120m11_8 rfl
  replace w := w.iconst (q := 12) (z := (1 : Int32)) dp120m11_11 (by decide) rfl
  replace w := w.isub (q := 13) (z := (3 : Int32)) dp120m11_12 (by decide) rfl
  replace w := w.istoreN (q := 14) (l' := #[.val (.ref a), .val (.int (3 : Int32)), .unset]) dp120m11_13 rfl rfl
  replace w := w.iloadN (q := 15) (v := (3 : Int32)) dp120m11_14 rfl rfl
  replace w := w.iconst (q := 16) (z := (1 : Int32)) dp120m11_15 (by decide) rfl
  obtain ⟨-, w⟩ := (w.icmpLt (q := 30) (q' := 19) (xi := 3) (yi := 1) dp120m11_16 rfl rfl (by decide) (by decide) rfl).resolve_left (fun g => by have hc16 := g.1; revert hc16; decide)
  replace w := w.aloadN (q := 20) (v := (.ref a)) dp120m11_19 rfl rfl rfl
  replace w := w.iloadN (q := 21) (v := (3 : Int32)) dp120m11_20 rfl rfl
  obtain ⟨_, h144, ⟨rfl, S⟩, w⟩ := w.callP (a := a) (y := (⟨"com/example/lucky_fork/luckyfork/model/GroupSums", "addUp", "(I)V"⟩ : MethodName)) (argsL := [(.int (3 : Int32))]) (rest := []) (own_au_4_3 l Z a0 hw _ n0 S.z0 a r c p (4 : Int32) (2 : Int32) (2 : Int32) (1 : Int32) cb y0 y1 y2 y3 y4 y5 y6 y7 p0 p1 p2 p3 p4 p5 p6 p7  S ) (S.1.1) (hw _ (List.mem_of_getElem? (i := 68) rfl)) (hw _ (List.mem_of_getElem? (i := 70) rfl)) (hw _ (List.mem_of_getElem? (i := 5) rfl)) (hw _ (List.mem_of_getElem? (i := 69) rfl)) (hw _ (List.mem_of_getElem? (i := 6) rfl)) (hw _ (List.mem_of_getElem? (i := 71) rfl)) (by decide) dp120m11_21 (lenOf pd_3 rfl) rfl rfl (by decide) (W := 0) (Nat.le_of_eq rfl) (by decide) (by decide) (by decide) (q := 24) rfl
  replace w := w [] rfl
  replace w := w.iinc (q := 27) (z := (2 : Int32)) (l' := #[.val (.ref a), .val (.int (2 : Int32)), .unset]) dp120m11_24 rfl (by decide) rfl rfl
  replace w := w.goto (q := 14) dp120m11_27 (by decide) (by decide)
  replace w := w.iloadN (q := 15) (v := (2 : Int32)) dp120m11_14 rfl rfl
  replace w := w.iconst (q := 16) (z := (1 : Int32)) dp120m11_15 (by decide) rfl
  obtain ⟨-, w⟩ := (w.icmpLt (q := 30) (q' := 19) (xi := 2) (yi := 1) dp120m11_16 rfl rfl (by decide) (by decide) rfl).resolve_left (fun g => by have hc16 := g.1; revert hc16; decide)
  replace w := w.aloadN (q := 20) (v := (.ref a)) dp120m11_19 rfl rfl rfl
  replace w := w.iloadN (q := 21) (v := (2 : Int32)) dp120m11_20 rfl rfl
  obtain ⟨_, h145, ⟨rfl, S⟩, w⟩ := w.callP (a := a) (y := (⟨"com/example/lucky_fork/luckyfork/model/GroupSums", "addUp", "(I)V"⟩ : MethodName)) (argsL := [(.int (2 : Int32))]) (rest := []) (own_au_4_2 l Z a0 hw _ n0 S.z0 a r c p (4 : Int32) (2 : Int32) (2 : Int32) (1 : Int32) cb y0 y1 y2 (y6 + y7) y4 y5 y6 y7 p0 p1 p2 p3 p4 p5 p6 p7  S ) (S.1.1) (hw _ (List.mem_of_getElem? (i := 68) rfl)) (hw _ (List.mem_of_getElem? (i := 70) rfl)) (hw _ (List.mem_of_getElem? (i := 5) rfl)) (hw _ (List.mem_of_getElem? (i := 69) rfl)) (hw _ (List.mem_of_getElem? (i := 6) rfl)) (hw _ (List.mem_of_getElem? (i := 71) rfl)) (by decide) dp120m11_21 (lenOf pd_3 rfl) rfl rfl (by decide) (W := 0) (Nat.le_of_eq rfl) (by decide) (by decide) (by decide) (q := 24) rfl
  replace w := w [] rfl
  replace w := w.iinc (q := 27) (z := (1 : Int32)) (l' := #[.val (.ref a), .val (.int (1 : Int32)), .unset]) dp120m11_24 rfl (by decide) rfl rfl
  replace w := w.goto (q := 14) dp120m11_27 (by decide) (by decide)
  replace w := w.iloadN (q := 15) (v := (1 : Int32)) dp120m11_14 rfl rfl
  replace w := w.iconst (q := 16) (z := (1 : Int32)) dp120m11_15 (by decide) rfl
  obtain ⟨-, w⟩ := (w.icmpLt (q := 30) (q' := 19) (xi := 1) (yi := 1) dp120m11_16 rfl rfl (by decide) (by decide) rfl).resolve_left (fun g => by have hc16 := g.1; revert hc16; decide)
  replace w := w.aloadN (q := 20) (v := (.ref a)) dp120m11_19 rfl rfl rfl
  replace w := w.iloadN (q := 21) (v := (1 : Int32)) dp120m11_20 rfl rfl
  obtain ⟨_, h146, ⟨rfl, S⟩, w⟩ := w.callP (a := a) (y := (⟨"com/example/lucky_fork/luckyfork/model/GroupSums", "addUp", "(I)V"⟩ : MethodName)) (argsL := [(.int (1 : Int32))]) (rest := []) (own_au_4_1 l Z a0 hw _ n0 S.z0 a r c p (4 : Int32) (2 : Int32) (2 : Int32) (1 : Int32) cb y0 y1 (y4 + y5) (y6 + y7) y4 y5 y6 y7 p0 p1 p2 p3 p4 p5 p6 p7  S ) (S.1.1) (hw _ (List.mem_of_getElem? (i := 68) rfl)) (hw _ (List.mem_of_getElem? (i := 70) rfl)) (hw _ (List.mem_of_getElem? (i := 5) rfl)) (hw _ (List.mem_of_getElem? (i := 69) rfl)) (hw _ (List.mem_of_getElem? (i := 6) rfl)) (hw _ (List.mem_of_getElem? (i := 71) rfl)) (by decide) dp120m11_21 (lenOf pd_3 rfl) rfl rfl (by decide) (W := 0) (Nat.le_of_eq rfl) (by decide) (by decide) (by decide) (q := 24) rfl
  replace w := w [] rfl
  replace w := w.iinc (q := 27) (z := (0 : Int32)) (l' := #[.val (.ref a), .val (.int (0 : Int32)), .unset]) dp120m11_24 rfl (by decide) rfl rfl
  replace w := w.goto (q := 14) dp120m11_27 (by decide) (by decide)
  replace w := w.iloadN (q := 15) (v := (0 : Int32)) dp120m11_14 rfl rfl
  replace w := w.iconst (q := 16) (z := (1 : Int32)) dp120m11_15 (by decide) rfl
  obtain ⟨-, w⟩ := (w.icmpLt (q := 30) (q' := 19) (xi := 0) (yi := 1) dp120m11_16 rfl rfl (by decide) (by decide) rfl).resolve_right (fun g => by have hc16 := g.1; revert hc16; decide)
  replace w := w.aloadN (q := 31) (v := (.ref a)) dp120m11_30 rfl rfl rfl
  replace w := w.iconst (q := 32) (z := (0 : Int32)) dp120m11_31 (by decide) rfl
  obtain ⟨h147, W148, w⟩ := w.putF (q := 35) (C := "com/example/lucky_fork/luckyfork/model/GroupSums") (hw _ (List.mem_of_getElem? (i := 37) rfl)) (S.1.2.2.2.2.2.2.2.1) (S.1.1) (Or.inl (hw _ (List.mem_of_getElem? (i := 38) rfl))) (hw _ (List.mem_of_getElem? (i := 5) rfl)) (ty := .boolean) (by decide) (by decide) (by decide) dp120m11_32 (S.2.2.2.2.1.1) rfl
  replace S := S.put_rebuild hw W148
  replace w := w.aloadN (q := 36) (v := (.ref a)) dp120m11_35 rfl rfl rfl
  replace w := w.iconst (q := 37) (z := (0 : Int32)) dp120m11_36 (by decide) rfl
  obtain ⟨h149, W150, w⟩ := w.putF (q := 40) (C := "com/example/lucky_fork/luckyfork/model/GroupSums") (hw _ (List.mem_of_getElem? (i := 35) rfl)) (S.1.2.2.2.2.2.2.1) (S.1.1) (Or.inl (hw _ (List.mem_of_getElem? (i := 36) rfl))) (hw _ (List.mem_of_getElem? (i := 5) rfl)) (ty := .int) (by decide) rfl rfl dp120m11_37 (S.2.2.2.2.1.1) rfl
  replace S := S.put_pendingCount hw W150
  exact w.retV dp120m11_40 ⟨rfl, S⟩ (by decide) (by decide)
set_option maxRecDepth 65536 in
set_option maxHeartbeats 40000000 in
theorem own_size_1 (l : Launch) (Z : State) (a0 : Array Value) (hw : ∀ d ∈ tables_1, d.before a0 Z = true) (h0 : Heap) (n0 : Nat) (Z0 : n0 ≤ h0.size) (a r c p : Nat) (dp : Int32) (pn : Int32) (rb : Int32) (cb : Int32) (y0 : Int32) (y1 : Int32) (p0 : Int32) (p1 : Int32) (p2 : Int32) (p3 : Int32) (p4 : Int32) (p5 : Int32) (p6 : Int32) (p7 : Int32) (S : Gt Z h0 n0 a r c p (1 : Int32) dp pn rb cb [(.double (0 : UInt64)), (.double (0 : UInt64))] [(.int y0), (.int y1)] [(.int p0), (.int p1), (.int p2), (.int p3), (.int p4), (.int p5), (.int p6), (.int p7)]) :
    Met l Z (⟨"com/example/lucky_fork/luckyfork/model/GroupSums", "size", "()I"⟩ : MethodName) prog_120_method_6_code 1 (some .int) ({ frames := 0, cells := 0, slots := 0, locals := 0 } : Room) n0 #[(.ref a)] h0 (fun v h => v = some (.int y1) ∧ Gt Z h n0 a r c p (1 : Int32) dp pn rb cb [(.double (0 : UInt64)), (.double (0 : UInt64))] [(.int y0), (.int y1)] [(.int p0), (.int p1), (.int p2), (.int p3), (.int p4), (.int p5), (.int p6), (.int p7)]) := by
  refine Met.of (Ls := #[.val (.ref a)]) (plainFor_of_name pn_0) (fun m => by first | (simp [entryFrame, mkF, argsToLocals, Value.category, maxLocals]; done) | rfl) (fun κ w => ?_)
  replace w : Wk κ l Z "com/example/lucky_fork/luckyfork/model/GroupSums" "size" prog_120_method_6_code 1 (some .int) ({ frames := 0, cells := 0, slots := 0, locals := 0 } : Room) n0 h0 0 0 0 #[.val (.ref a)] [] := w
  replace w := w.aloadN (q := 1) (v := (.ref a)) dp120m6_0 rfl rfl rfl
  replace w := w.getF (q := 4) (v := (.ref c)) (hw _ (List.mem_of_getElem? (i := 19) rfl)) (S.1.2.2.2.2.1) dp120m6_1 rfl
  replace w := w.iconst (q := 5) (z := (1 : Int32)) dp120m6_4 (by decide) rfl
  replace w := w.ldIl (q := 6) (v := (.int y1)) (S.2.2.1) 1 rfl rfl dp120m6_5 rfl
  exact w.retI dp120m6_6 ⟨rfl, S⟩ (by decide) (by decide)
set_option maxRecDepth 65536 in
set_option maxHeartbeats 40000000 in
theorem own_cb_1 (l : Launch) (Z : State) (a0 : Array Value) (hw : ∀ d ∈ tables_1, d.before a0 Z = true) (h0 : Heap) (n0 : Nat) (Z0 : n0 ≤ h0.size) (a r c p : Nat) (dp : Int32) (pn : Int32) (rb : Int32) (cb : Int32) (y0 : Int32) (y1 : Int32) (p0 : Int32) (p1 : Int32) (p2 : Int32) (p3 : Int32) (p4 : Int32) (p5 : Int32) (p6 : Int32) (p7 : Int32) (S : Gt Z h0 n0 a r c p (1 : Int32) dp pn rb cb [(.double (0 : UInt64)), (.double (0 : UInt64))] [(.int y0), (.int y1)] [(.int p0), (.int p1), (.int p2), (.int p3), (.int p4), (.int p5), (.int p6), (.int p7)]) :
    Met l Z (⟨"com/example/lucky_fork/luckyfork/model/GroupSums", "countBefore", "()I"⟩ : MethodName) prog_120_method_10_code 1 (some .int) ({ frames := 0, cells := 0, slots := 0, locals := 0 } : Room) n0 #[(.ref a)] h0 (fun v h => v = some (.int cb) ∧ Gt Z h n0 a r c p (1 : Int32) dp pn rb cb [(.double (0 : UInt64)), (.double (0 : UInt64))] [(.int y0), (.int y1)] [(.int p0), (.int p1), (.int p2), (.int p3), (.int p4), (.int p5), (.int p6), (.int p7)]) := by
  refine Met.of (Ls := #[.val (.ref a)]) (plainFor_of_name pn_0) (fun m => by first | (simp [entryFrame, mkF, argsToLocals, Value.category, maxLocals]; done) | rfl) (fun κ w => ?_)
  replace w : Wk κ l Z "com/example/lucky_fork/luckyfork/model/GroupSums" "countBefore" prog_120_method_10_code 1 (some .int) ({ frames := 0, cells := 0, slots := 0, locals := 0 } : Room) n0 h0 0 0 0 #[.val (.ref a)] [] := w
  replace w := w.aloadN (q := 1) (v := (.ref a)) dp120m10_0 rfl rfl rfl
  replace w := w.getF (q := 4) (v := (.int cb)) (hw _ (List.mem_of_getElem? (i := 79) rfl)) (S.1.2.2.2.2.2.2.2.2) dp120m10_1 rfl
  exact w.retI dp120m10_4 ⟨rfl, S⟩ (by decide) (by decide)
set_option maxRecDepth 65536 in
set_option maxHeartbeats 40000000 in
theorem own_size_2 (l : Launch) (Z : State) (a0 : Array Value) (hw : ∀ d ∈ tables_1, d.before a0 Z = true) (h0 : Heap) (n0 : Nat) (Z0 : n0 ≤ h0.size) (a r c p : Nat) (dp : Int32) (pn : Int32) (rb : Int32) (cb : Int32) (y0 : Int32) (y1 : Int32) (y2 : Int32) (y3 : Int32) (p0 : Int32) (p1 : Int32) (p2 : Int32) (p3 : Int32) (p4 : Int32) (p5 : Int32) (p6 : Int32) (p7 : Int32) (S : Gt Z h0 n0 a r c p (2 : Int32) dp pn rb cb [(.double (0 : UInt64)), (.double (0 : UInt64)), (.double (0 : UInt64)), (.double (0 : UInt64))] [(.int y0), (.int y1), (.int y2), (.int y3)] [(.int p0), (.int p1), (.int p2), (.int p3), (.int p4), (.int p5), (.int p6), (.int p7)]) :
    Met l Z (⟨"com/example/lucky_fork/luckyfork/model/GroupSums", "size", "()I"⟩ : MethodName) prog_120_method_6_code 1 (some .int) ({ frames := 0, cells := 0, slots := 0, locals := 0 } : Room) n0 #[(.ref a)] h0 (fun v h => v = some (.int y1) ∧ Gt Z h n0 a r c p (2 : Int32) dp pn rb cb [(.double (0 : UInt64)), (.double (0 : UInt64)), (.double (0 : UInt64)), (.double (0 : UInt64))] [(.int y0), (.int y1), (.int y2), (.int y3)] [(.int p0), (.int p1), (.int p2), (.int p3), (.int p4), (.int p5), (.int p6), (.int p7)]) := by
  refine Met.of (Ls := #[.val (.ref a)]) (plainFor_of_name pn_0) (fun m => by first | (simp [entryFrame, mkF, argsToLocals, Value.category, maxLocals]; done) | rfl) (fun κ w => ?_)
  replace w : Wk κ l Z "com/example/lucky_fork/luckyfork/model/GroupSums" "size" prog_120_method_6_code 1 (some .int) ({ frames := 0, cells := 0, slots := 0, locals := 0 } : Room) n0 h0 0 0 0 #[.val (.ref a)] [] := w
  replace w := w.aloadN (q := 1) (v := (.ref a)) dp120m6_0 rfl rfl rfl
  replace w := w.getF (q := 4) (v := (.ref c)) (hw _ (List.mem_of_getElem? (i := 19) rfl)) (S.1.2.2.2.2.1) dp120m6_1 rfl
  replace w := w.iconst (q := 5) (z := (1 : Int32)) dp120m6_4 (by decide) rfl
  replace w := w.ldIl (q := 6) (v := (.int y1)) (S.2.2.1) 1 rfl rfl dp120m6_5 rfl
  exact w.retI dp120m6_6 ⟨rfl, S⟩ (by decide) (by decide)
set_option maxRecDepth 65536 in
set_option maxHeartbeats 40000000 in
theorem own_cb_2 (l : Launch) (Z : State) (a0 : Array Value) (hw : ∀ d ∈ tables_1, d.before a0 Z = true) (h0 : Heap) (n0 : Nat) (Z0 : n0 ≤ h0.size) (a r c p : Nat) (dp : Int32) (pn : Int32) (rb : Int32) (cb : Int32) (y0 : Int32) (y1 : Int32) (y2 : Int32) (y3 : Int32) (p0 : Int32) (p1 : Int32) (p2 : Int32) (p3 : Int32) (p4 : Int32) (p5 : Int32) (p6 : Int32) (p7 : Int32) (S : Gt Z h0 n0 a r c p (2 : Int32) dp pn rb cb [(.double (0 : UInt64)), (.double (0 : UInt64)), (.double (0 : UInt64)), (.double (0 : UInt64))] [(.int y0), (.int y1), (.int y2), (.int y3)] [(.int p0), (.int p1), (.int p2), (.int p3), (.int p4), (.int p5), (.int p6), (.int p7)]) :
    Met l Z (⟨"com/example/lucky_fork/luckyfork/model/GroupSums", "countBefore", "()I"⟩ : MethodName) prog_120_method_10_code 1 (some .int) ({ frames := 0, cells := 0, slots := 0, locals := 0 } : Room) n0 #[(.ref a)] h0 (fun v h => v = some (.int cb) ∧ Gt Z h n0 a r c p (2 : Int32) dp pn rb cb [(.double (0 : UInt64)), (.double (0 : UInt64)), (.double (0 : UInt64)), (.double (0 : UInt64))] [(.int y0), (.int y1), (.int y2), (.int y3)] [(.int p0), (.int p1), (.int p2), (.int p3), (.int p4), (.int p5), (.int p6), (.int p7)]) := by
  refine Met.of (Ls := #[.val (.ref a)]) (plainFor_of_name pn_0) (fun m => by first | (simp [entryFrame, mkF, argsToLocals, Value.category, maxLocals]; done) | rfl) (fun κ w => ?_)
  replace w : Wk κ l Z "com/example/lucky_fork/luckyfork/model/GroupSums" "countBefore" prog_120_method_10_code 1 (some .int) ({ frames := 0, cells := 0, slots := 0, locals := 0 } : Room) n0 h0 0 0 0 #[.val (.ref a)] [] := w
  replace w := w.aloadN (q := 1) (v := (.ref a)) dp120m10_0 rfl rfl rfl
  replace w := w.getF (q := 4) (v := (.int cb)) (hw _ (List.mem_of_getElem? (i := 79) rfl)) (S.1.2.2.2.2.2.2.2.2) dp120m10_1 rfl
  exact w.retI dp120m10_4 ⟨rfl, S⟩ (by decide) (by decide)
set_option maxRecDepth 65536 in
set_option maxHeartbeats 40000000 in
theorem own_size_4 (l : Launch) (Z : State) (a0 : Array Value) (hw : ∀ d ∈ tables_1, d.before a0 Z = true) (h0 : Heap) (n0 : Nat) (Z0 : n0 ≤ h0.size) (a r c p : Nat) (dp : Int32) (pn : Int32) (rb : Int32) (cb : Int32) (y0 : Int32) (y1 : Int32) (y2 : Int32) (y3 : Int32) (y4 : Int32) (y5 : Int32) (y6 : Int32) (y7 : Int32) (p0 : Int32) (p1 : Int32) (p2 : Int32) (p3 : Int32) (p4 : Int32) (p5 : Int32) (p6 : Int32) (p7 : Int32) (S : Gt Z h0 n0 a r c p (4 : Int32) dp pn rb cb [(.double (0 : UInt64)), (.double (0 : UInt64)), (.double (0 : UInt64)), (.double (0 : UInt64)), (.double (0 : UInt64)), (.double (0 : UInt64)), (.double (0 : UInt64)), (.double (0 : UInt64))] [(.int y0), (.int y1), (.int y2), (.int y3), (.int y4), (.int y5), (.int y6), (.int y7)] [(.int p0), (.int p1), (.int p2), (.int p3), (.int p4), (.int p5), (.int p6), (.int p7)]) :
    Met l Z (⟨"com/example/lucky_fork/luckyfork/model/GroupSums", "size", "()I"⟩ : MethodName) prog_120_method_6_code 1 (some .int) ({ frames := 0, cells := 0, slots := 0, locals := 0 } : Room) n0 #[(.ref a)] h0 (fun v h => v = some (.int y1) ∧ Gt Z h n0 a r c p (4 : Int32) dp pn rb cb [(.double (0 : UInt64)), (.double (0 : UInt64)), (.double (0 : UInt64)), (.double (0 : UInt64)), (.double (0 : UInt64)), (.double (0 : UInt64)), (.double (0 : UInt64)), (.double (0 : UInt64))] [(.int y0), (.int y1), (.int y2), (.int y3), (.int y4), (.int y5), (.int y6), (.int y7)] [(.int p0), (.int p1), (.int p2), (.int p3), (.int p4), (.int p5), (.int p6), (.int p7)]) := by
  refine Met.of (Ls := #[.val (.ref a)]) (plainFor_of_name pn_0) (fun m => by first | (simp [entryFrame, mkF, argsToLocals, Value.category, maxLocals]; done) | rfl) (fun κ w => ?_)
  replace w : Wk κ l Z "com/example/lucky_fork/luckyfork/model/GroupSums" "size" prog_120_method_6_code 1 (some .int) ({ frames := 0, cells := 0, slots := 0, locals := 0 } : Room) n0 h0 0 0 0 #[.val (.ref a)] [] := w
  replace w := w.aloadN (q := 1) (v := (.ref a)) dp120m6_0 rfl rfl rfl
  replace w := w.getF (q := 4) (v := (.ref c)) (hw _ (List.mem_of_getElem? (i := 19) rfl)) (S.1.2.2.2.2.1) dp120m6_1 rfl
  replace w := w.iconst (q := 5) (z := (1 : Int32)) dp120m6_4 (by decide) rfl
  replace w := w.ldIl (q := 6) (v := (.int y1)) (S.2.2.1) 1 rfl rfl dp120m6_5 rfl
  exact w.retI dp120m6_6 ⟨rfl, S⟩ (by decide) (by decide)
set_option maxRecDepth 65536 in
set_option maxHeartbeats 40000000 in
theorem own_cb_4 (l : Launch) (Z : State) (a0 : Array Value) (hw : ∀ d ∈ tables_1, d.before a0 Z = true) (h0 : Heap) (n0 : Nat) (Z0 : n0 ≤ h0.size) (a r c p : Nat) (dp : Int32) (pn : Int32) (rb : Int32) (cb : Int32) (y0 : Int32) (y1 : Int32) (y2 : Int32) (y3 : Int32) (y4 : Int32) (y5 : Int32) (y6 : Int32) (y7 : Int32) (p0 : Int32) (p1 : Int32) (p2 : Int32) (p3 : Int32) (p4 : Int32) (p5 : Int32) (p6 : Int32) (p7 : Int32) (S : Gt Z h0 n0 a r c p (4 : Int32) dp pn rb cb [(.double (0 : UInt64)), (.double (0 : UInt64)), (.double (0 : UInt64)), (.double (0 : UInt64)), (.double (0 : UInt64)), (.double (0 : UInt64)), (.double (0 : UInt64)), (.double (0 : UInt64))] [(.int y0), (.int y1), (.int y2), (.int y3), (.int y4), (.int y5), (.int y6), (.int y7)] [(.int p0), (.int p1), (.int p2), (.int p3), (.int p4), (.int p5), (.int p6), (.int p7)]) :
    Met l Z (⟨"com/example/lucky_fork/luckyfork/model/GroupSums", "countBefore", "()I"⟩ : MethodName) prog_120_method_10_code 1 (some .int) ({ frames := 0, cells := 0, slots := 0, locals := 0 } : Room) n0 #[(.ref a)] h0 (fun v h => v = some (.int cb) ∧ Gt Z h n0 a r c p (4 : Int32) dp pn rb cb [(.double (0 : UInt64)), (.double (0 : UInt64)), (.double (0 : UInt64)), (.double (0 : UInt64)), (.double (0 : UInt64)), (.double (0 : UInt64)), (.double (0 : UInt64)), (.double (0 : UInt64))] [(.int y0), (.int y1), (.int y2), (.int y3), (.int y4), (.int y5), (.int y6), (.int y7)] [(.int p0), (.int p1), (.int p2), (.int p3), (.int p4), (.int p5), (.int p6), (.int p7)]) := by
  refine Met.of (Ls := #[.val (.ref a)]) (plainFor_of_name pn_0) (fun m => by first | (simp [entryFrame, mkF, argsToLocals, Value.category, maxLocals]; done) | rfl) (fun κ w => ?_)
  replace w : Wk κ l Z "com/example/lucky_fork/luckyfork/model/GroupSums" "countBefore" prog_120_method_10_code 1 (some .int) ({ frames := 0, cells := 0, slots := 0, locals := 0 } : Room) n0 h0 0 0 0 #[.val (.ref a)] [] := w
  replace w := w.aloadN (q := 1) (v := (.ref a)) dp120m10_0 rfl rfl rfl
  replace w := w.getF (q := 4) (v := (.int cb)) (hw _ (List.mem_of_getElem? (i := 79) rfl)) (S.1.2.2.2.2.2.2.2.2) dp120m10_1 rfl
  exact w.retI dp120m10_4 ⟨rfl, S⟩ (by decide) (by decide)
set_option maxRecDepth 65536 in
set_option maxHeartbeats 40000000 in
theorem own_cnt (l : Launch) (Z : State) (a0 : Array Value) (hw : ∀ d ∈ tables_1, d.before a0 Z = true) (h0 : Heap) (n0 : Nat) (Z0 : n0 ≤ h0.size) (x : Int32) :
    Met l Z (⟨"com/example/lucky_fork/luckyfork/model/GroupSumsFindByIndexPinLaw", "cnt", "(I)I"⟩ : MethodName) method_2_code 1 (some .int) ({ frames := 0, cells := 0, slots := 0, locals := 0 } : Room) n0 #[(.int x)] h0 (fun v h => h = h0 ∧ ∃ r : Int32, v = some (.int r) ∧ 0 ≤ r.toInt ∧ r.toInt < 1048576) := by
  refine Met.of (Ls := #[.val (.int x)]) (plainFor_of_name pn_3) (fun m => by first | (simp [entryFrame, mkF, argsToLocals, Value.category, maxLocals]; done) | rfl) (fun κ w => ?_)
  replace w : Wk κ l Z "com/example/lucky_fork/luckyfork/model/GroupSumsFindByIndexPinLaw" "cnt" method_2_code 1 (some .int) ({ frames := 0, cells := 0, slots := 0, locals := 0 } : Room) n0 h0 0 0 0 #[.val (.int x)] [] := w
  replace w := w.iloadN (q := 1) (v := x) dlm2_0 rfl rfl
  replace w := w.bipush (q := 3) (z := (20 : Int32)) dlm2_1 (by decide) rfl
  obtain ⟨z151, hz151⟩ : ∃ z : Int32, XT.ushr x (20 : Int32) = z := ⟨_, rfl⟩
  replace w := w.iushr (q := 4) dlm2_3 hz151 rfl
  replace w := w.iconst (q := 5) (z := (3 : Int32)) dlm2_4 (by decide) rfl
  obtain ⟨z152, hz152⟩ : ∃ z : Int32, z151 &&& (3 : Int32) = z := ⟨_, rfl⟩
  replace w := w.iand (q := 6) dlm2_5 hz152 rfl
  rcases w.ifNe (q := 13) (q' := 9) (xi := z152.toInt) dlm2_6 rfl (by decide) (by decide) rfl with ⟨hc6, w⟩ | ⟨hc6, w⟩
  · replace w := w.iloadN (q := 14) (v := x) dlm2_13 rfl rfl
    replace w := w.ldcI (q := 16) (z := (1048575 : Int32)) (hw _ (List.mem_of_getElem? (i := 72) rfl)) dlm2_14 rfl
    obtain ⟨z153, hz153⟩ : ∃ z : Int32, x &&& (1048575 : Int32) = z := ⟨_, rfl⟩
    replace w := w.iand (q := 17) dlm2_16 hz153 rfl
    exact w.retI dlm2_17 ⟨rfl, _, rfl, own_cntb hz153⟩ (by decide) (by decide)
  · replace w := w.iconst (q := 10) (z := (0 : Int32)) dlm2_9 (by decide) rfl
    replace w := w.goto (q := 17) dlm2_10 (by decide) (by decide)
    exact w.retI dlm2_17 ⟨rfl, _, rfl, by decide, by decide⟩ (by decide) (by decide)
set_option maxRecDepth 65536 in
set_option maxHeartbeats 40000000 in
theorem own_find_1 (l : Launch) (Z : State) (a0 : Array Value) (hw : ∀ d ∈ tables_1, d.before a0 Z = true) (h0 : Heap) (n0 : Nat) (Z0 : n0 ≤ h0.size) (a r c p : Nat) (dp : Int32) (pn : Int32) (rb : Int32) (cb : Int32) (y0 : Int32) (y1 : Int32) (p0 : Int32) (p1 : Int32) (p2 : Int32) (p3 : Int32) (p4 : Int32) (p5 : Int32) (p6 : Int32) (p7 : Int32) (k : Int32) (S : Gt Z h0 n0 a r c p (1 : Int32) dp pn rb cb [(.double (0 : UInt64)), (.double (0 : UInt64))] [(.int y0), (.int y1)] [(.int p0), (.int p1), (.int p2), (.int p3), (.int p4), (.int p5), (.int p6), (.int p7)]) :
    Met l Z (⟨"com/example/lucky_fork/luckyfork/model/GroupSums", "findByIndex", "(I)I"⟩ : MethodName) prog_120_method_7_code 5 (some .int) ({ frames := 0, cells := 0, slots := 0, locals := 0 } : Room) n0 #[(.ref a), (.int k)] h0 (fun v h => ∃ (rv b : Int32), v = some (.int rv) ∧ Gt Z h n0 a r c p (1 : Int32) dp pn rb b [(.double (0 : UInt64)), (.double (0 : UInt64))] [(.int y0), (.int y1)] [(.int p0), (.int p1), (.int p2), (.int p3), (.int p4), (.int p5), (.int p6), (.int p7)] ∧ rv.toInt = 0 ∧ b.toInt = 0) := by
  refine Met.of (Ls := #[.val (.ref a), .val (.int k), .unset, .unset, .unset]) (plainFor_of_name pn_0) (fun m => by first | (simp [entryFrame, mkF, argsToLocals, Value.category, maxLocals]; done) | rfl) (fun κ w => ?_)
  replace w : Wk κ l Z "com/example/lucky_fork/luckyfork/model/GroupSums" "findByIndex" prog_120_method_7_code 5 (some .int) ({ frames := 0, cells := 0, slots := 0, locals := 0 } : Room) n0 h0 0 0 0 #[.val (.ref a), .val (.int k), .unset, .unset, .unset] [] := w
  have e00 : (0 : Int32).toInt = 0 := rfl
  replace w := w.iconst (q := 1) (z := (1 : Int32)) dp120m7_0 (by decide) rfl
  replace w := w.istoreN (q := 2) (l' := #[.val (.ref a), .val (.int k), .val (.int (1 : Int32)), .unset, .unset]) dp120m7_1 rfl rfl
  replace w := w.iconst (q := 3) (z := (0 : Int32)) dp120m7_2 (by decide) rfl
  replace w := w.istoreN (q := 4) (l' := #[.val (.ref a), .val (.int k), .val (.int (1 : Int32)), .val (.int (0 : Int32)), .unset]) dp120m7_3 rfl rfl
  replace w := w.iloadN (q := 5) (v := (1 : Int32)) dp120m7_4 rfl rfl
  replace w := w.aloadN (q := 6) (v := (.ref a)) dp120m7_5 rfl rfl rfl
  replace w := w.getF (q := 9) (v := (.int (1 : Int32))) (hw _ (List.mem_of_getElem? (i := 13) rfl)) (S.1.2.1) dp120m7_6 rfl
  obtain ⟨-, w⟩ := (w.icmpGe (q := 54) (q' := 12) (xi := 1) (yi := 1) dp120m7_9 rfl rfl (by decide) (by decide) rfl).resolve_right (fun g => by have hc9 := g.1; revert hc9; decide)
  replace w := w.aloadN (q := 55) (v := (.ref a)) dp120m7_54 rfl rfl rfl
  replace w := w.iloadN (q := 56) (v := (0 : Int32)) dp120m7_55 rfl rfl
  obtain ⟨h154, W155, w⟩ := w.putF (q := 59) (C := "com/example/lucky_fork/luckyfork/model/GroupSums") (hw _ (List.mem_of_getElem? (i := 79) rfl)) (S.1.2.2.2.2.2.2.2.2) (S.1.1) (Or.inl (hw _ (List.mem_of_getElem? (i := 80) rfl))) (hw _ (List.mem_of_getElem? (i := 5) rfl)) (ty := .int) (by decide) rfl rfl dp120m7_56 (S.2.2.2.2.1.1) rfl
  replace S := S.put_countBefore hw W155
  replace w := w.iloadN (q := 60) (v := (1 : Int32)) dp120m7_59 rfl rfl
  replace w := w.aloadN (q := 61) (v := (.ref a)) dp120m7_60 rfl rfl rfl
  replace w := w.getF (q := 64) (v := (.int (1 : Int32))) (hw _ (List.mem_of_getElem? (i := 13) rfl)) (S.1.2.1) dp120m7_61 rfl
  replace w := w.isub (q := 65) (z := (0 : Int32)) dp120m7_64 (by decide) rfl
  exact w.retI dp120m7_65 ⟨_, _, rfl, S, by have er : (0 : Int32).toInt = 0 := rfl; omega⟩ (by decide) (by decide)
set_option maxRecDepth 65536 in
set_option maxHeartbeats 40000000 in
theorem own_find_2 (l : Launch) (Z : State) (a0 : Array Value) (hw : ∀ d ∈ tables_1, d.before a0 Z = true) (h0 : Heap) (n0 : Nat) (Z0 : n0 ≤ h0.size) (a r c p : Nat) (dp : Int32) (pn : Int32) (rb : Int32) (cb : Int32) (y0 : Int32) (y1 : Int32) (y2 : Int32) (y3 : Int32) (p0 : Int32) (p1 : Int32) (p2 : Int32) (p3 : Int32) (p4 : Int32) (p5 : Int32) (p6 : Int32) (p7 : Int32) (k : Int32) (S : Gt Z h0 n0 a r c p (2 : Int32) dp pn rb cb [(.double (0 : UInt64)), (.double (0 : UInt64)), (.double (0 : UInt64)), (.double (0 : UInt64))] [(.int y0), (.int y1), (.int y2), (.int y3)] [(.int p0), (.int p1), (.int p2), (.int p3), (.int p4), (.int p5), (.int p6), (.int p7)]) (b_y2 : 0 ≤ y2.toInt ∧ y2.toInt < 8388608) :
    Met l Z (⟨"com/example/lucky_fork/luckyfork/model/GroupSums", "findByIndex", "(I)I"⟩ : MethodName) prog_120_method_7_code 5 (some .int) ({ frames := 0, cells := 0, slots := 0, locals := 0 } : Room) n0 #[(.ref a), (.int k)] h0 (fun v h => ∃ (rv b : Int32), v = some (.int rv) ∧ Gt Z h n0 a r c p (2 : Int32) dp pn rb b [(.double (0 : UInt64)), (.double (0 : UInt64)), (.double (0 : UInt64)), (.double (0 : UInt64))] [(.int y0), (.int y1), (.int y2), (.int y3)] [(.int p0), (.int p1), (.int p2), (.int p3), (.int p4), (.int p5), (.int p6), (.int p7)] ∧ (k.toInt < y2.toInt ∧ rv.toInt = 0 ∧ b.toInt = 0 ∨ y2.toInt ≤ k.toInt ∧ rv.toInt = 1 ∧ b.toInt = y2.toInt)) := by
  refine Met.of (Ls := #[.val (.ref a), .val (.int k), .unset, .unset, .unset]) (plainFor_of_name pn_0) (fun m => by first | (simp [entryFrame, mkF, argsToLocals, Value.category, maxLocals]; done) | rfl) (fun κ w => ?_)
  replace w : Wk κ l Z "com/example/lucky_fork/luckyfork/model/GroupSums" "findByIndex" prog_120_method_7_code 5 (some .int) ({ frames := 0, cells := 0, slots := 0, locals := 0 } : Room) n0 h0 0 0 0 #[.val (.ref a), .val (.int k), .unset, .unset, .unset] [] := w
  have e00 : (0 : Int32).toInt = 0 := rfl
  replace w := w.iconst (q := 1) (z := (1 : Int32)) dp120m7_0 (by decide) rfl
  replace w := w.istoreN (q := 2) (l' := #[.val (.ref a), .val (.int k), .val (.int (1 : Int32)), .unset, .unset]) dp120m7_1 rfl rfl
  replace w := w.iconst (q := 3) (z := (0 : Int32)) dp120m7_2 (by decide) rfl
  replace w := w.istoreN (q := 4) (l' := #[.val (.ref a), .val (.int k), .val (.int (1 : Int32)), .val (.int (0 : Int32)), .unset]) dp120m7_3 rfl rfl
  replace w := w.iloadN (q := 5) (v := (1 : Int32)) dp120m7_4 rfl rfl
  replace w := w.aloadN (q := 6) (v := (.ref a)) dp120m7_5 rfl rfl rfl
  replace w := w.getF (q := 9) (v := (.int (2 : Int32))) (hw _ (List.mem_of_getElem? (i := 13) rfl)) (S.1.2.1) dp120m7_6 rfl
  obtain ⟨-, w⟩ := (w.icmpGe (q := 54) (q' := 12) (xi := 1) (yi := 2) dp120m7_9 rfl rfl (by decide) (by decide) rfl).resolve_left (fun g => by have hc9 := g.1; revert hc9; decide)
  replace w := w.iconst (q := 13) (z := (2 : Int32)) dp120m7_12 (by decide) rfl
  replace w := w.iloadN (q := 14) (v := (1 : Int32)) dp120m7_13 rfl rfl
  replace w := w.imul (q := 15) (z := (2 : Int32)) dp120m7_14 (by decide) rfl
  replace w := w.istore (q := 17) (l' := #[.val (.ref a), .val (.int k), .val (.int (1 : Int32)), .val (.int (0 : Int32)), .val (.int (2 : Int32))]) dp120m7_15 rfl rfl
  replace w := w.iloadN (q := 18) (v := k) dp120m7_17 rfl rfl
  replace w := w.iloadN (q := 19) (v := (0 : Int32)) dp120m7_18 rfl rfl
  replace w := w.aloadN (q := 20) (v := (.ref a)) dp120m7_19 rfl rfl rfl
  replace w := w.getF (q := 23) (v := (.ref c)) (hw _ (List.mem_of_getElem? (i := 19) rfl)) (S.1.2.2.2.2.1) dp120m7_20 rfl
  replace w := w.iload (q := 25) (v := (2 : Int32)) dp120m7_23 rfl rfl
  replace w := w.ldIl (q := 26) (v := (.int y2)) (S.2.2.1) 2 rfl rfl dp120m7_25 rfl
  obtain ⟨z156, hz156⟩ : ∃ z : Int32, (0 : Int32) + y2 = z := ⟨_, rfl⟩
  replace w := w.iadd (q := 27) dp120m7_26 hz156 rfl
  have fz156 := own_add hz156 (by omega) (by omega) (by omega) (by omega)
  rcases w.icmpGe (q := 36) (q' := 30) (xi := k.toInt) (yi := z156.toInt) dp120m7_27 rfl rfl (by decide) (by decide) rfl with ⟨hc27, w⟩ | ⟨hc27, w⟩
  · replace w := w.iloadN (q := 37) (v := (0 : Int32)) dp120m7_36 rfl rfl
    replace w := w.aloadN (q := 38) (v := (.ref a)) dp120m7_37 rfl rfl rfl
    replace w := w.getF (q := 41) (v := (.ref c)) (hw _ (List.mem_of_getElem? (i := 19) rfl)) (S.1.2.2.2.2.1) dp120m7_38 rfl
    replace w := w.iload (q := 43) (v := (2 : Int32)) dp120m7_41 rfl rfl
    replace w := w.ldIl (q := 44) (v := (.int y2)) (S.2.2.1) 2 rfl rfl dp120m7_43 rfl
    obtain ⟨z157, hz157⟩ : ∃ z : Int32, (0 : Int32) + y2 = z := ⟨_, rfl⟩
    replace w := w.iadd (q := 45) dp120m7_44 hz157 rfl
    have fz157 := own_add hz157 (by omega) (by omega) (by omega) (by omega)
    replace w := w.istoreN (q := 46) (l' := #[.val (.ref a), .val (.int k), .val (.int (1 : Int32)), .val (.int z157), .val (.int (2 : Int32))]) dp120m7_45 rfl rfl
    replace w := w.iload (q := 48) (v := (2 : Int32)) dp120m7_46 rfl rfl
    replace w := w.iconst (q := 49) (z := (1 : Int32)) dp120m7_48 (by decide) rfl
    replace w := w.iadd (q := 50) (z := (3 : Int32)) dp120m7_49 (by decide) rfl
    replace w := w.istoreN (q := 51) (l' := #[.val (.ref a), .val (.int k), .val (.int (3 : Int32)), .val (.int z157), .val (.int (2 : Int32))]) dp120m7_50 rfl rfl
    replace w := w.goto (q := 4) dp120m7_51 (by decide) (by decide)
    replace w := w.iloadN (q := 5) (v := (3 : Int32)) dp120m7_4 rfl rfl
    replace w := w.aloadN (q := 6) (v := (.ref a)) dp120m7_5 rfl rfl rfl
    replace w := w.getF (q := 9) (v := (.int (2 : Int32))) (hw _ (List.mem_of_getElem? (i := 13) rfl)) (S.1.2.1) dp120m7_6 rfl
    obtain ⟨-, w⟩ := (w.icmpGe (q := 54) (q' := 12) (xi := 3) (yi := 2) dp120m7_9 rfl rfl (by decide) (by decide) rfl).resolve_right (fun g => by have hc9 := g.1; revert hc9; decide)
    replace w := w.aloadN (q := 55) (v := (.ref a)) dp120m7_54 rfl rfl rfl
    replace w := w.iloadN (q := 56) (v := z157) dp120m7_55 rfl rfl
    obtain ⟨h158, W159, w⟩ := w.putF (q := 59) (C := "com/example/lucky_fork/luckyfork/model/GroupSums") (hw _ (List.mem_of_getElem? (i := 79) rfl)) (S.1.2.2.2.2.2.2.2.2) (S.1.1) (Or.inl (hw _ (List.mem_of_getElem? (i := 80) rfl))) (hw _ (List.mem_of_getElem? (i := 5) rfl)) (ty := .int) (by decide) rfl rfl dp120m7_56 (S.2.2.2.2.1.1) rfl
    replace S := S.put_countBefore hw W159
    replace w := w.iloadN (q := 60) (v := (3 : Int32)) dp120m7_59 rfl rfl
    replace w := w.aloadN (q := 61) (v := (.ref a)) dp120m7_60 rfl rfl rfl
    replace w := w.getF (q := 64) (v := (.int (2 : Int32))) (hw _ (List.mem_of_getElem? (i := 13) rfl)) (S.1.2.1) dp120m7_61 rfl
    replace w := w.isub (q := 65) (z := (1 : Int32)) dp120m7_64 (by decide) rfl
    exact w.retI dp120m7_65 ⟨_, _, rfl, S, by have er : (1 : Int32).toInt = 1 := rfl; omega⟩ (by decide) (by decide)
  · replace w := w.iload (q := 32) (v := (2 : Int32)) dp120m7_30 rfl rfl
    replace w := w.istoreN (q := 33) (l' := #[.val (.ref a), .val (.int k), .val (.int (2 : Int32)), .val (.int (0 : Int32)), .val (.int (2 : Int32))]) dp120m7_32 rfl rfl
    replace w := w.goto (q := 51) dp120m7_33 (by decide) (by decide)
    replace w := w.goto (q := 4) dp120m7_51 (by decide) (by decide)
    replace w := w.iloadN (q := 5) (v := (2 : Int32)) dp120m7_4 rfl rfl
    replace w := w.aloadN (q := 6) (v := (.ref a)) dp120m7_5 rfl rfl rfl
    replace w := w.getF (q := 9) (v := (.int (2 : Int32))) (hw _ (List.mem_of_getElem? (i := 13) rfl)) (S.1.2.1) dp120m7_6 rfl
    obtain ⟨-, w⟩ := (w.icmpGe (q := 54) (q' := 12) (xi := 2) (yi := 2) dp120m7_9 rfl rfl (by decide) (by decide) rfl).resolve_right (fun g => by have hc9 := g.1; revert hc9; decide)
    replace w := w.aloadN (q := 55) (v := (.ref a)) dp120m7_54 rfl rfl rfl
    replace w := w.iloadN (q := 56) (v := (0 : Int32)) dp120m7_55 rfl rfl
    obtain ⟨h160, W161, w⟩ := w.putF (q := 59) (C := "com/example/lucky_fork/luckyfork/model/GroupSums") (hw _ (List.mem_of_getElem? (i := 79) rfl)) (S.1.2.2.2.2.2.2.2.2) (S.1.1) (Or.inl (hw _ (List.mem_of_getElem? (i := 80) rfl))) (hw _ (List.mem_of_getElem? (i := 5) rfl)) (ty := .int) (by decide) rfl rfl dp120m7_56 (S.2.2.2.2.1.1) rfl
    replace S := S.put_countBefore hw W161
    replace w := w.iloadN (q := 60) (v := (2 : Int32)) dp120m7_59 rfl rfl
    replace w := w.aloadN (q := 61) (v := (.ref a)) dp120m7_60 rfl rfl rfl
    replace w := w.getF (q := 64) (v := (.int (2 : Int32))) (hw _ (List.mem_of_getElem? (i := 13) rfl)) (S.1.2.1) dp120m7_61 rfl
    replace w := w.isub (q := 65) (z := (0 : Int32)) dp120m7_64 (by decide) rfl
    exact w.retI dp120m7_65 ⟨_, _, rfl, S, by have er : (0 : Int32).toInt = 0 := rfl; omega⟩ (by decide) (by decide)
set_option maxRecDepth 65536 in
set_option maxHeartbeats 40000000 in
theorem own_find_4 (l : Launch) (Z : State) (a0 : Array Value) (hw : ∀ d ∈ tables_1, d.before a0 Z = true) (h0 : Heap) (n0 : Nat) (Z0 : n0 ≤ h0.size) (a r c p : Nat) (dp : Int32) (pn : Int32) (rb : Int32) (cb : Int32) (y0 : Int32) (y1 : Int32) (y2 : Int32) (y3 : Int32) (y4 : Int32) (y5 : Int32) (y6 : Int32) (y7 : Int32) (p0 : Int32) (p1 : Int32) (p2 : Int32) (p3 : Int32) (p4 : Int32) (p5 : Int32) (p6 : Int32) (p7 : Int32) (k : Int32) (S : Gt Z h0 n0 a r c p (4 : Int32) dp pn rb cb [(.double (0 : UInt64)), (.double (0 : UInt64)), (.double (0 : UInt64)), (.double (0 : UInt64)), (.double (0 : UInt64)), (.double (0 : UInt64)), (.double (0 : UInt64)), (.double (0 : UInt64))] [(.int y0), (.int y1), (.int y2), (.int y3), (.int y4), (.int y5), (.int y6), (.int y7)] [(.int p0), (.int p1), (.int p2), (.int p3), (.int p4), (.int p5), (.int p6), (.int p7)]) (b_y2 : 0 ≤ y2.toInt ∧ y2.toInt < 8388608) (b_y4 : 0 ≤ y4.toInt ∧ y4.toInt < 8388608) (b_y6 : 0 ≤ y6.toInt ∧ y6.toInt < 8388608) :
    Met l Z (⟨"com/example/lucky_fork/luckyfork/model/GroupSums", "findByIndex", "(I)I"⟩ : MethodName) prog_120_method_7_code 5 (some .int) ({ frames := 0, cells := 0, slots := 0, locals := 0 } : Room) n0 #[(.ref a), (.int k)] h0 (fun v h => ∃ (rv b : Int32), v = some (.int rv) ∧ Gt Z h n0 a r c p (4 : Int32) dp pn rb b [(.double (0 : UInt64)), (.double (0 : UInt64)), (.double (0 : UInt64)), (.double (0 : UInt64)), (.double (0 : UInt64)), (.double (0 : UInt64)), (.double (0 : UInt64)), (.double (0 : UInt64))] [(.int y0), (.int y1), (.int y2), (.int y3), (.int y4), (.int y5), (.int y6), (.int y7)] [(.int p0), (.int p1), (.int p2), (.int p3), (.int p4), (.int p5), (.int p6), (.int p7)] ∧ (k.toInt < y2.toInt ∧ k.toInt < y4.toInt ∧ rv.toInt = 0 ∧ b.toInt = 0 ∨ k.toInt < y2.toInt ∧ y4.toInt ≤ k.toInt ∧ rv.toInt = 1 ∧ b.toInt = y4.toInt ∨ y2.toInt ≤ k.toInt ∧ k.toInt < y2.toInt + y6.toInt ∧ rv.toInt = 2 ∧ b.toInt = y2.toInt ∨ y2.toInt + y6.toInt ≤ k.toInt ∧ rv.toInt = 3 ∧ b.toInt = y2.toInt + y6.toInt)) := by
  refine Met.of (Ls := #[.val (.ref a), .val (.int k), .unset, .unset, .unset]) (plainFor_of_name pn_0) (fun m => by first | (simp [entryFrame, mkF, argsToLocals, Value.category, maxLocals]; done) | rfl) (fun κ w => ?_)
  replace w : Wk κ l Z "com/example/lucky_fork/luckyfork/model/GroupSums" "findByIndex" prog_120_method_7_code 5 (some .int) ({ frames := 0, cells := 0, slots := 0, locals := 0 } : Room) n0 h0 0 0 0 #[.val (.ref a), .val (.int k), .unset, .unset, .unset] [] := w
  have e00 : (0 : Int32).toInt = 0 := rfl
  replace w := w.iconst (q := 1) (z := (1 : Int32)) dp120m7_0 (by decide) rfl
  replace w := w.istoreN (q := 2) (l' := #[.val (.ref a), .val (.int k), .val (.int (1 : Int32)), .unset, .unset]) dp120m7_1 rfl rfl
  replace w := w.iconst (q := 3) (z := (0 : Int32)) dp120m7_2 (by decide) rfl
  replace w := w.istoreN (q := 4) (l' := #[.val (.ref a), .val (.int k), .val (.int (1 : Int32)), .val (.int (0 : Int32)), .unset]) dp120m7_3 rfl rfl
  replace w := w.iloadN (q := 5) (v := (1 : Int32)) dp120m7_4 rfl rfl
  replace w := w.aloadN (q := 6) (v := (.ref a)) dp120m7_5 rfl rfl rfl
  replace w := w.getF (q := 9) (v := (.int (4 : Int32))) (hw _ (List.mem_of_getElem? (i := 13) rfl)) (S.1.2.1) dp120m7_6 rfl
  obtain ⟨-, w⟩ := (w.icmpGe (q := 54) (q' := 12) (xi := 1) (yi := 4) dp120m7_9 rfl rfl (by decide) (by decide) rfl).resolve_left (fun g => by have hc9 := g.1; revert hc9; decide)
  replace w := w.iconst (q := 13) (z := (2 : Int32)) dp120m7_12 (by decide) rfl
  replace w := w.iloadN (q := 14) (v := (1 : Int32)) dp120m7_13 rfl rfl
  replace w := w.imul (q := 15) (z := (2 : Int32)) dp120m7_14 (by decide) rfl
  replace w := w.istore (q := 17) (l' := #[.val (.ref a), .val (.int k), .val (.int (1 : Int32)), .val (.int (0 : Int32)), .val (.int (2 : Int32))]) dp120m7_15 rfl rfl
  replace w := w.iloadN (q := 18) (v := k) dp120m7_17 rfl rfl
  replace w := w.iloadN (q := 19) (v := (0 : Int32)) dp120m7_18 rfl rfl
  replace w := w.aloadN (q := 20) (v := (.ref a)) dp120m7_19 rfl rfl rfl
  replace w := w.getF (q := 23) (v := (.ref c)) (hw _ (List.mem_of_getElem? (i := 19) rfl)) (S.1.2.2.2.2.1) dp120m7_20 rfl
  replace w := w.iload (q := 25) (v := (2 : Int32)) dp120m7_23 rfl rfl
  replace w := w.ldIl (q := 26) (v := (.int y2)) (S.2.2.1) 2 rfl rfl dp120m7_25 rfl
  obtain ⟨z162, hz162⟩ : ∃ z : Int32, (0 : Int32) + y2 = z := ⟨_, rfl⟩
  replace w := w.iadd (q := 27) dp120m7_26 hz162 rfl
  have fz162 := own_add hz162 (by omega) (by omega) (by omega) (by omega)
  rcases w.icmpGe (q := 36) (q' := 30) (xi := k.toInt) (yi := z162.toInt) dp120m7_27 rfl rfl (by decide) (by decide) rfl with ⟨hc27, w⟩ | ⟨hc27, w⟩
  · replace w := w.iloadN (q := 37) (v := (0 : Int32)) dp120m7_36 rfl rfl
    replace w := w.aloadN (q := 38) (v := (.ref a)) dp120m7_37 rfl rfl rfl
    replace w := w.getF (q := 41) (v := (.ref c)) (hw _ (List.mem_of_getElem? (i := 19) rfl)) (S.1.2.2.2.2.1) dp120m7_38 rfl
    replace w := w.iload (q := 43) (v := (2 : Int32)) dp120m7_41 rfl rfl
    replace w := w.ldIl (q := 44) (v := (.int y2)) (S.2.2.1) 2 rfl rfl dp120m7_43 rfl
    obtain ⟨z163, hz163⟩ : ∃ z : Int32, (0 : Int32) + y2 = z := ⟨_, rfl⟩
    replace w := w.iadd (q := 45) dp120m7_44 hz163 rfl
    have fz163 := own_add hz163 (by omega) (by omega) (by omega) (by omega)
    replace w := w.istoreN (q := 46) (l' := #[.val (.ref a), .val (.int k), .val (.int (1 : Int32)), .val (.int z163), .val (.int (2 : Int32))]) dp120m7_45 rfl rfl
    replace w := w.iload (q := 48) (v := (2 : Int32)) dp120m7_46 rfl rfl
    replace w := w.iconst (q := 49) (z := (1 : Int32)) dp120m7_48 (by decide) rfl
    replace w := w.iadd (q := 50) (z := (3 : Int32)) dp120m7_49 (by decide) rfl
    replace w := w.istoreN (q := 51) (l' := #[.val (.ref a), .val (.int k), .val (.int (3 : Int32)), .val (.int z163), .val (.int (2 : Int32))]) dp120m7_50 rfl rfl
    replace w := w.goto (q := 4) dp120m7_51 (by decide) (by decide)
    replace w := w.iloadN (q := 5) (v := (3 : Int32)) dp120m7_4 rfl rfl
    replace w := w.aloadN (q := 6) (v := (.ref a)) dp120m7_5 rfl rfl rfl
    replace w := w.getF (q := 9) (v := (.int (4 : Int32))) (hw _ (List.mem_of_getElem? (i := 13) rfl)) (S.1.2.1) dp120m7_6 rfl
    obtain ⟨-, w⟩ := (w.icmpGe (q := 54) (q' := 12) (xi := 3) (yi := 4) dp120m7_9 rfl rfl (by decide) (by decide) rfl).resolve_left (fun g => by have hc9 := g.1; revert hc9; decide)
    replace w := w.iconst (q := 13) (z := (2 : Int32)) dp120m7_12 (by decide) rfl
    replace w := w.iloadN (q := 14) (v := (3 : Int32)) dp120m7_13 rfl rfl
    replace w := w.imul (q := 15) (z := (6 : Int32)) dp120m7_14 (by decide) rfl
    replace w := w.istore (q := 17) (l' := #[.val (.ref a), .val (.int k), .val (.int (3 : Int32)), .val (.int z163), .val (.int (6 : Int32))]) dp120m7_15 rfl rfl
    replace w := w.iloadN (q := 18) (v := k) dp120m7_17 rfl rfl
    replace w := w.iloadN (q := 19) (v := z163) dp120m7_18 rfl rfl
    replace w := w.aloadN (q := 20) (v := (.ref a)) dp120m7_19 rfl rfl rfl
    replace w := w.getF (q := 23) (v := (.ref c)) (hw _ (List.mem_of_getElem? (i := 19) rfl)) (S.1.2.2.2.2.1) dp120m7_20 rfl
    replace w := w.iload (q := 25) (v := (6 : Int32)) dp120m7_23 rfl rfl
    replace w := w.ldIl (q := 26) (v := (.int y6)) (S.2.2.1) 6 rfl rfl dp120m7_25 rfl
    obtain ⟨z164, hz164⟩ : ∃ z : Int32, z163 + y6 = z := ⟨_, rfl⟩
    replace w := w.iadd (q := 27) dp120m7_26 hz164 rfl
    have fz164 := own_add hz164 (by omega) (by omega) (by omega) (by omega)
    rcases w.icmpGe (q := 36) (q' := 30) (xi := k.toInt) (yi := z164.toInt) dp120m7_27 rfl rfl (by decide) (by decide) rfl with ⟨hc27, w⟩ | ⟨hc27, w⟩
    · replace w := w.iloadN (q := 37) (v := z163) dp120m7_36 rfl rfl
      replace w := w.aloadN (q := 38) (v := (.ref a)) dp120m7_37 rfl rfl rfl
      replace w := w.getF (q := 41) (v := (.ref c)) (hw _ (List.mem_of_getElem? (i := 19) rfl)) (S.1.2.2.2.2.1) dp120m7_38 rfl
      replace w := w.iload (q := 43) (v := (6 : Int32)) dp120m7_41 rfl rfl
      replace w := w.ldIl (q := 44) (v := (.int y6)) (S.2.2.1) 6 rfl rfl dp120m7_43 rfl
      obtain ⟨z165, hz165⟩ : ∃ z : Int32, z163 + y6 = z := ⟨_, rfl⟩
      replace w := w.iadd (q := 45) dp120m7_44 hz165 rfl
      have fz165 := own_add hz165 (by omega) (by omega) (by omega) (by omega)
      replace w := w.istoreN (q := 46) (l' := #[.val (.ref a), .val (.int k), .val (.int (3 : Int32)), .val (.int z165), .val (.int (6 : Int32))]) dp120m7_45 rfl rfl
      replace w := w.iload (q := 48) (v := (6 : Int32)) dp120m7_46 rfl rfl
      replace w := w.iconst (q := 49) (z := (1 : Int32)) dp120m7_48 (by decide) rfl
      replace w := w.iadd (q := 50) (z := (7 : Int32)) dp120m7_49 (by decide) rfl
      replace w := w.istoreN (q := 51) (l' := #[.val (.ref a), .val (.int k), .val (.int (7 : Int32)), .val (.int z165), .val (.int (6 : Int32))]) dp120m7_50 rfl rfl
      replace w := w.goto (q := 4) dp120m7_51 (by decide) (by decide)
      replace w := w.iloadN (q := 5) (v := (7 : Int32)) dp120m7_4 rfl rfl
      replace w := w.aloadN (q := 6) (v := (.ref a)) dp120m7_5 rfl rfl rfl
      replace w := w.getF (q := 9) (v := (.int (4 : Int32))) (hw _ (List.mem_of_getElem? (i := 13) rfl)) (S.1.2.1) dp120m7_6 rfl
      obtain ⟨-, w⟩ := (w.icmpGe (q := 54) (q' := 12) (xi := 7) (yi := 4) dp120m7_9 rfl rfl (by decide) (by decide) rfl).resolve_right (fun g => by have hc9 := g.1; revert hc9; decide)
      replace w := w.aloadN (q := 55) (v := (.ref a)) dp120m7_54 rfl rfl rfl
      replace w := w.iloadN (q := 56) (v := z165) dp120m7_55 rfl rfl
      obtain ⟨h166, W167, w⟩ := w.putF (q := 59) (C := "com/example/lucky_fork/luckyfork/model/GroupSums") (hw _ (List.mem_of_getElem? (i := 79) rfl)) (S.1.2.2.2.2.2.2.2.2) (S.1.1) (Or.inl (hw _ (List.mem_of_getElem? (i := 80) rfl))) (hw _ (List.mem_of_getElem? (i := 5) rfl)) (ty := .int) (by decide) rfl rfl dp120m7_56 (S.2.2.2.2.1.1) rfl
      replace S := S.put_countBefore hw W167
      replace w := w.iloadN (q := 60) (v := (7 : Int32)) dp120m7_59 rfl rfl
      replace w := w.aloadN (q := 61) (v := (.ref a)) dp120m7_60 rfl rfl rfl
      replace w := w.getF (q := 64) (v := (.int (4 : Int32))) (hw _ (List.mem_of_getElem? (i := 13) rfl)) (S.1.2.1) dp120m7_61 rfl
      replace w := w.isub (q := 65) (z := (3 : Int32)) dp120m7_64 (by decide) rfl
      exact w.retI dp120m7_65 ⟨_, _, rfl, S, by have er : (3 : Int32).toInt = 3 := rfl; omega⟩ (by decide) (by decide)
    · replace w := w.iload (q := 32) (v := (6 : Int32)) dp120m7_30 rfl rfl
      replace w := w.istoreN (q := 33) (l' := #[.val (.ref a), .val (.int k), .val (.int (6 : Int32)), .val (.int z163), .val (.int (6 : Int32))]) dp120m7_32 rfl rfl
      replace w := w.goto (q := 51) dp120m7_33 (by decide) (by decide)
      replace w := w.goto (q := 4) dp120m7_51 (by decide) (by decide)
      replace w := w.iloadN (q := 5) (v := (6 : Int32)) dp120m7_4 rfl rfl
      replace w := w.aloadN (q := 6) (v := (.ref a)) dp120m7_5 rfl rfl rfl
      replace w := w.getF (q := 9) (v := (.int (4 : Int32))) (hw _ (List.mem_of_getElem? (i := 13) rfl)) (S.1.2.1) dp120m7_6 rfl
      obtain ⟨-, w⟩ := (w.icmpGe (q := 54) (q' := 12) (xi := 6) (yi := 4) dp120m7_9 rfl rfl (by decide) (by decide) rfl).resolve_right (fun g => by have hc9 := g.1; revert hc9; decide)
      replace w := w.aloadN (q := 55) (v := (.ref a)) dp120m7_54 rfl rfl rfl
      replace w := w.iloadN (q := 56) (v := z163) dp120m7_55 rfl rfl
      obtain ⟨h168, W169, w⟩ := w.putF (q := 59) (C := "com/example/lucky_fork/luckyfork/model/GroupSums") (hw _ (List.mem_of_getElem? (i := 79) rfl)) (S.1.2.2.2.2.2.2.2.2) (S.1.1) (Or.inl (hw _ (List.mem_of_getElem? (i := 80) rfl))) (hw _ (List.mem_of_getElem? (i := 5) rfl)) (ty := .int) (by decide) rfl rfl dp120m7_56 (S.2.2.2.2.1.1) rfl
      replace S := S.put_countBefore hw W169
      replace w := w.iloadN (q := 60) (v := (6 : Int32)) dp120m7_59 rfl rfl
      replace w := w.aloadN (q := 61) (v := (.ref a)) dp120m7_60 rfl rfl rfl
      replace w := w.getF (q := 64) (v := (.int (4 : Int32))) (hw _ (List.mem_of_getElem? (i := 13) rfl)) (S.1.2.1) dp120m7_61 rfl
      replace w := w.isub (q := 65) (z := (2 : Int32)) dp120m7_64 (by decide) rfl
      exact w.retI dp120m7_65 ⟨_, _, rfl, S, by have er : (2 : Int32).toInt = 2 := rfl; omega⟩ (by decide) (by decide)
  · replace w := w.iload (q := 32) (v := (2 : Int32)) dp120m7_30 rfl rfl
    replace w := w.istoreN (q := 33) (l' := #[.val (.ref a), .val (.int k), .val (.int (2 : Int32)), .val (.int (0 : Int32)), .val (.int (2 : Int32))]) dp120m7_32 rfl rfl
    replace w := w.goto (q := 51) dp120m7_33 (by decide) (by decide)
    replace w := w.goto (q := 4) dp120m7_51 (by decide) (by decide)
    replace w := w.iloadN (q := 5) (v := (2 : Int32)) dp120m7_4 rfl rfl
    replace w := w.aloadN (q := 6) (v := (.ref a)) dp120m7_5 rfl rfl rfl
    replace w := w.getF (q := 9) (v := (.int (4 : Int32))) (hw _ (List.mem_of_getElem? (i := 13) rfl)) (S.1.2.1) dp120m7_6 rfl
    obtain ⟨-, w⟩ := (w.icmpGe (q := 54) (q' := 12) (xi := 2) (yi := 4) dp120m7_9 rfl rfl (by decide) (by decide) rfl).resolve_left (fun g => by have hc9 := g.1; revert hc9; decide)
    replace w := w.iconst (q := 13) (z := (2 : Int32)) dp120m7_12 (by decide) rfl
    replace w := w.iloadN (q := 14) (v := (2 : Int32)) dp120m7_13 rfl rfl
    replace w := w.imul (q := 15) (z := (4 : Int32)) dp120m7_14 (by decide) rfl
    replace w := w.istore (q := 17) (l' := #[.val (.ref a), .val (.int k), .val (.int (2 : Int32)), .val (.int (0 : Int32)), .val (.int (4 : Int32))]) dp120m7_15 rfl rfl
    replace w := w.iloadN (q := 18) (v := k) dp120m7_17 rfl rfl
    replace w := w.iloadN (q := 19) (v := (0 : Int32)) dp120m7_18 rfl rfl
    replace w := w.aloadN (q := 20) (v := (.ref a)) dp120m7_19 rfl rfl rfl
    replace w := w.getF (q := 23) (v := (.ref c)) (hw _ (List.mem_of_getElem? (i := 19) rfl)) (S.1.2.2.2.2.1) dp120m7_20 rfl
    replace w := w.iload (q := 25) (v := (4 : Int32)) dp120m7_23 rfl rfl
    replace w := w.ldIl (q := 26) (v := (.int y4)) (S.2.2.1) 4 rfl rfl dp120m7_25 rfl
    obtain ⟨z170, hz170⟩ : ∃ z : Int32, (0 : Int32) + y4 = z := ⟨_, rfl⟩
    replace w := w.iadd (q := 27) dp120m7_26 hz170 rfl
    have fz170 := own_add hz170 (by omega) (by omega) (by omega) (by omega)
    rcases w.icmpGe (q := 36) (q' := 30) (xi := k.toInt) (yi := z170.toInt) dp120m7_27 rfl rfl (by decide) (by decide) rfl with ⟨hc27, w⟩ | ⟨hc27, w⟩
    · replace w := w.iloadN (q := 37) (v := (0 : Int32)) dp120m7_36 rfl rfl
      replace w := w.aloadN (q := 38) (v := (.ref a)) dp120m7_37 rfl rfl rfl
      replace w := w.getF (q := 41) (v := (.ref c)) (hw _ (List.mem_of_getElem? (i := 19) rfl)) (S.1.2.2.2.2.1) dp120m7_38 rfl
      replace w := w.iload (q := 43) (v := (4 : Int32)) dp120m7_41 rfl rfl
      replace w := w.ldIl (q := 44) (v := (.int y4)) (S.2.2.1) 4 rfl rfl dp120m7_43 rfl
      obtain ⟨z171, hz171⟩ : ∃ z : Int32, (0 : Int32) + y4 = z := ⟨_, rfl⟩
      replace w := w.iadd (q := 45) dp120m7_44 hz171 rfl
      have fz171 := own_add hz171 (by omega) (by omega) (by omega) (by omega)
      replace w := w.istoreN (q := 46) (l' := #[.val (.ref a), .val (.int k), .val (.int (2 : Int32)), .val (.int z171), .val (.int (4 : Int32))]) dp120m7_45 rfl rfl
      replace w := w.iload (q := 48) (v := (4 : Int32)) dp120m7_46 rfl rfl
      replace w := w.iconst (q := 49) (z := (1 : Int32)) dp120m7_48 (by decide) rfl
      replace w := w.iadd (q := 50) (z := (5 : Int32)) dp120m7_49 (by decide) rfl
      replace w := w.istoreN (q := 51) (l' := #[.val (.ref a), .val (.int k), .val (.int (5 : Int32)), .val (.int z171), .val (.int (4 : Int32))]) dp120m7_50 rfl rfl
      replace w := w.goto (q := 4) dp120m7_51 (by decide) (by decide)
      replace w := w.iloadN (q := 5) (v := (5 : Int32)) dp120m7_4 rfl rfl
      replace w := w.aloadN (q := 6) (v := (.ref a)) dp120m7_5 rfl rfl rfl
      replace w := w.getF (q := 9) (v := (.int (4 : Int32))) (hw _ (List.mem_of_getElem? (i := 13) rfl)) (S.1.2.1) dp120m7_6 rfl
      obtain ⟨-, w⟩ := (w.icmpGe (q := 54) (q' := 12) (xi := 5) (yi := 4) dp120m7_9 rfl rfl (by decide) (by decide) rfl).resolve_right (fun g => by have hc9 := g.1; revert hc9; decide)
      replace w := w.aloadN (q := 55) (v := (.ref a)) dp120m7_54 rfl rfl rfl
      replace w := w.iloadN (q := 56) (v := z171) dp120m7_55 rfl rfl
      obtain ⟨h172, W173, w⟩ := w.putF (q := 59) (C := "com/example/lucky_fork/luckyfork/model/GroupSums") (hw _ (List.mem_of_getElem? (i := 79) rfl)) (S.1.2.2.2.2.2.2.2.2) (S.1.1) (Or.inl (hw _ (List.mem_of_getElem? (i := 80) rfl))) (hw _ (List.mem_of_getElem? (i := 5) rfl)) (ty := .int) (by decide) rfl rfl dp120m7_56 (S.2.2.2.2.1.1) rfl
      replace S := S.put_countBefore hw W173
      replace w := w.iloadN (q := 60) (v := (5 : Int32)) dp120m7_59 rfl rfl
      replace w := w.aloadN (q := 61) (v := (.ref a)) dp120m7_60 rfl rfl rfl
      replace w := w.getF (q := 64) (v := (.int (4 : Int32))) (hw _ (List.mem_of_getElem? (i := 13) rfl)) (S.1.2.1) dp120m7_61 rfl
      replace w := w.isub (q := 65) (z := (1 : Int32)) dp120m7_64 (by decide) rfl
      exact w.retI dp120m7_65 ⟨_, _, rfl, S, by have er : (1 : Int32).toInt = 1 := rfl; omega⟩ (by decide) (by decide)
    · replace w := w.iload (q := 32) (v := (4 : Int32)) dp120m7_30 rfl rfl
      replace w := w.istoreN (q := 33) (l' := #[.val (.ref a), .val (.int k), .val (.int (4 : Int32)), .val (.int (0 : Int32)), .val (.int (4 : Int32))]) dp120m7_32 rfl rfl
      replace w := w.goto (q := 51) dp120m7_33 (by decide) (by decide)
      replace w := w.goto (q := 4) dp120m7_51 (by decide) (by decide)
      replace w := w.iloadN (q := 5) (v := (4 : Int32)) dp120m7_4 rfl rfl
      replace w := w.aloadN (q := 6) (v := (.ref a)) dp120m7_5 rfl rfl rfl
      replace w := w.getF (q := 9) (v := (.int (4 : Int32))) (hw _ (List.mem_of_getElem? (i := 13) rfl)) (S.1.2.1) dp120m7_6 rfl
      obtain ⟨-, w⟩ := (w.icmpGe (q := 54) (q' := 12) (xi := 4) (yi := 4) dp120m7_9 rfl rfl (by decide) (by decide) rfl).resolve_right (fun g => by have hc9 := g.1; revert hc9; decide)
      replace w := w.aloadN (q := 55) (v := (.ref a)) dp120m7_54 rfl rfl rfl
      replace w := w.iloadN (q := 56) (v := (0 : Int32)) dp120m7_55 rfl rfl
      obtain ⟨h174, W175, w⟩ := w.putF (q := 59) (C := "com/example/lucky_fork/luckyfork/model/GroupSums") (hw _ (List.mem_of_getElem? (i := 79) rfl)) (S.1.2.2.2.2.2.2.2.2) (S.1.1) (Or.inl (hw _ (List.mem_of_getElem? (i := 80) rfl))) (hw _ (List.mem_of_getElem? (i := 5) rfl)) (ty := .int) (by decide) rfl rfl dp120m7_56 (S.2.2.2.2.1.1) rfl
      replace S := S.put_countBefore hw W175
      replace w := w.iloadN (q := 60) (v := (4 : Int32)) dp120m7_59 rfl rfl
      replace w := w.aloadN (q := 61) (v := (.ref a)) dp120m7_60 rfl rfl rfl
      replace w := w.getF (q := 64) (v := (.int (4 : Int32))) (hw _ (List.mem_of_getElem? (i := 13) rfl)) (S.1.2.1) dp120m7_61 rfl
      replace w := w.isub (q := 65) (z := (0 : Int32)) dp120m7_64 (by decide) rfl
      exact w.retI dp120m7_65 ⟨_, _, rfl, S, by have er : (0 : Int32).toInt = 0 := rfl; omega⟩ (by decide) (by decide)
set_option maxRecDepth 65536 in
set_option maxHeartbeats 40000000 in
theorem own_law (l : Launch) (Z : State) (a0 : Array Value) (hw : ∀ d ∈ tables_1, d.before a0 Z = true) (h0 : Heap) (n0 : Nat) (Z0 : n0 ≤ h0.size) (x0 x1 x2 x3 x4 x5 : Int32) :
    Met l Z x code maxLocals ret room_1 n0 #[(.int x0), (.int x1), (.int x2), (.int x3), (.int x4), (.int x5)] h0 (fun v _ => v = some (.int 1)) := by
  refine Met.of (Ls := #[.val (.int x0), .val (.int x1), .val (.int x2), .val (.int x3), .val (.int x4), .val (.int x5), .unset, .unset, .unset, .unset, .unset, .unset, .unset, .unset, .unset, .unset, .unset]) (plainFor_of_name pn_3) (fun m => by first | (simp [entryFrame, mkF, argsToLocals, Value.category, maxLocals]; done) | rfl) (fun κ w => ?_)
  replace w : Wk κ l Z "com/example/lucky_fork/luckyfork/model/GroupSumsFindByIndexPinLaw" "law" code 17 (some .boolean) room_1 n0 h0 0 0 0 #[.val (.int x0), .val (.int x1), .val (.int x2), .val (.int x3), .val (.int x4), .val (.int x5), .unset, .unset, .unset, .unset, .unset, .unset, .unset, .unset, .unset, .unset, .unset] [] := w
  replace w := w.iloadN (q := 1) (v := x0) at_0 rfl rfl
  replace w := w.iconst (q := 2) (z := (3 : Int32)) at_1 (by decide) rfl
  obtain ⟨za, hza⟩ : ∃ z : Int32, x0 &&& (3 : Int32) = z := ⟨_, rfl⟩
  replace w := w.iand (q := 3) at_2 hza rfl
  replace w := w.iconst (q := 4) (z := (1 : Int32)) at_3 (by decide) rfl
  obtain ⟨gr, hgr⟩ : ∃ z : Int32, za + (1 : Int32) = z := ⟨_, rfl⟩
  replace w := w.iadd (q := 5) at_4 hgr rfl
  rcases own_groups hza hgr with rfl | rfl | rfl | rfl
  · replace w := w.istore (q := 7) (l' := #[.val (.int x0), .val (.int x1), .val (.int x2), .val (.int x3), .val (.int x4), .val (.int x5), .val (.int (1 : Int32)), .unset, .unset, .unset, .unset, .unset, .unset, .unset, .unset, .unset, .unset]) at_5 rfl rfl
    replace w := w.iloadN (q := 8) (v := x1) at_7 rfl rfl
    obtain ⟨_, _, ⟨eh, c_x1, rfl, bc_x1, dc_x1⟩, w⟩ := w.callS (y := (⟨"com/example/lucky_fork/luckyfork/model/GroupSumsFindByIndexPinLaw", "cnt", "(I)I"⟩ : MethodName)) (argsL := [(.int x1)]) (rest := []) (own_cnt l Z a0 hw h0 n0 Z0 x1) (hw _ (List.mem_of_getElem? (i := 0) rfl)) (hw _ (List.mem_of_getElem? (i := 1) rfl)) (hw _ (List.mem_of_getElem? (i := 2) rfl)) (hw _ (List.mem_of_getElem? (i := 3) rfl)) (by decide) at_8 (lenOf pd_0 rfl) rfl rfl (by decide) (W := 0) (Nat.le_of_eq rfl) (by decide) (by decide) (by decide) (q := 11) rfl
    rw [eh] at w
    replace w := w [(.int c_x1)] rfl
    replace w := w.istore (q := 13) (l' := #[.val (.int x0), .val (.int x1), .val (.int x2), .val (.int x3), .val (.int x4), .val (.int x5), .val (.int (1 : Int32)), .val (.int c_x1), .unset, .unset, .unset, .unset, .unset, .unset, .unset, .unset, .unset]) at_11 rfl rfl
    replace w := w.iload (q := 15) (v := (1 : Int32)) at_13 rfl rfl
    replace w := w.iconst (q := 16) (z := (1 : Int32)) at_15 (by decide) rfl
    obtain ⟨-, w⟩ := (w.icmpLe (q := 26) (q' := 19) (xi := 1) (yi := 1) at_16 rfl rfl (by decide) (by decide) rfl).resolve_right (fun g => by have hc16 := g.1; revert hc16; decide)
    replace w := w.iconst (q := 27) (z := (0 : Int32)) at_26 (by decide) rfl
    replace w := w.istore (q := 29) (l' := #[.val (.int x0), .val (.int x1), .val (.int x2), .val (.int x3), .val (.int x4), .val (.int x5), .val (.int (1 : Int32)), .val (.int c_x1), .val (.int (0 : Int32)), .unset, .unset, .unset, .unset, .unset, .unset, .unset, .unset]) at_27 rfl rfl
    replace w := w.iload (q := 31) (v := (1 : Int32)) at_29 rfl rfl
    replace w := w.iconst (q := 32) (z := (2 : Int32)) at_31 (by decide) rfl
    obtain ⟨-, w⟩ := (w.icmpLe (q := 42) (q' := 35) (xi := 1) (yi := 2) at_32 rfl rfl (by decide) (by decide) rfl).resolve_right (fun g => by have hc32 := g.1; revert hc32; decide)
    replace w := w.iconst (q := 43) (z := (0 : Int32)) at_42 (by decide) rfl
    replace w := w.istore (q := 45) (l' := #[.val (.int x0), .val (.int x1), .val (.int x2), .val (.int x3), .val (.int x4), .val (.int x5), .val (.int (1 : Int32)), .val (.int c_x1), .val (.int (0 : Int32)), .val (.int (0 : Int32)), .unset, .unset, .unset, .unset, .unset, .unset, .unset]) at_43 rfl rfl
    replace w := w.iload (q := 47) (v := (1 : Int32)) at_45 rfl rfl
    replace w := w.iconst (q := 48) (z := (3 : Int32)) at_47 (by decide) rfl
    obtain ⟨-, w⟩ := (w.icmpLe (q := 59) (q' := 51) (xi := 1) (yi := 3) at_48 rfl rfl (by decide) (by decide) rfl).resolve_right (fun g => by have hc48 := g.1; revert hc48; decide)
    replace w := w.iconst (q := 60) (z := (0 : Int32)) at_59 (by decide) rfl
    replace w := w.istore (q := 62) (l' := #[.val (.int x0), .val (.int x1), .val (.int x2), .val (.int x3), .val (.int x4), .val (.int x5), .val (.int (1 : Int32)), .val (.int c_x1), .val (.int (0 : Int32)), .val (.int (0 : Int32)), .val (.int (0 : Int32)), .unset, .unset, .unset, .unset, .unset, .unset]) at_60 rfl rfl
    obtain ⟨h1, a, ea, E, A, D, w⟩ := w.newO (q := 65) (hw _ (List.mem_of_getElem? (i := 4) rfl)) (hw _ (List.mem_of_getElem? (i := 5) rfl)) (hw _ (List.mem_of_getElem? (i := 6) rfl)) at_62 (by decide) (by decide) rfl
    have Fleaves : Fld Z h1 a "com/example/lucky_fork/luckyfork/model/GroupSums" "leaves" "I" (.int (0 : Int32)) := D (Or.inl (hw _ (List.mem_of_getElem? (i := 14) rfl))) (ty := .int) (by decide)
    have Fdepth : Fld Z h1 a "com/example/lucky_fork/luckyfork/model/GroupSums" "depth" "I" (.int (0 : Int32)) := D (Or.inl (hw _ (List.mem_of_getElem? (i := 45) rfl))) (ty := .int) (by decide)
    have Frates : Fld Z h1 a "com/example/lucky_fork/luckyfork/model/GroupSums" "rates" "[D" .null := D (Or.inl (hw _ (List.mem_of_getElem? (i := 17) rfl))) (ty := (.array .double)) (by decide)
    have Fcounts : Fld Z h1 a "com/example/lucky_fork/luckyfork/model/GroupSums" "counts" "[I" .null := D (Or.inl (hw _ (List.mem_of_getElem? (i := 20) rfl))) (ty := (.array .int)) (by decide)
    have Fpending : Fld Z h1 a "com/example/lucky_fork/luckyfork/model/GroupSums" "pending" "[I" .null := D (Or.inl (hw _ (List.mem_of_getElem? (i := 22) rfl))) (ty := (.array .int)) (by decide)
    have FpendingCount : Fld Z h1 a "com/example/lucky_fork/luckyfork/model/GroupSums" "pendingCount" "I" (.int (0 : Int32)) := D (Or.inl (hw _ (List.mem_of_getElem? (i := 36) rfl))) (ty := .int) (by decide)
    have Frebuild : Fld Z h1 a "com/example/lucky_fork/luckyfork/model/GroupSums" "rebuild" "Z" (.int (0 : Int32)) := D (Or.inl (hw _ (List.mem_of_getElem? (i := 38) rfl))) (ty := .boolean) (by decide)
    have FcountBefore : Fld Z h1 a "com/example/lucky_fork/luckyfork/model/GroupSums" "countBefore" "I" (.int (0 : Int32)) := D (Or.inl (hw _ (List.mem_of_getElem? (i := 80) rfl))) (ty := .int) (by decide)
    have ge : n0 ≤ a := by rw [ea]; exact Z0
    have S0 : Gs Z h1 a (.int 0) (.int 0) .null .null .null (.int 0) (.int 0) (.int 0) := ⟨A, Fleaves, Fdepth, Frates, Fcounts, Fpending, FpendingCount, Frebuild, FcountBefore⟩
    replace w := w.dup (q := 66) at_65 rfl rfl
    obtain ⟨_, h2, ⟨rfl, r, c, p, S⟩, w⟩ := w.callI (a := a) (y := (⟨"com/example/lucky_fork/luckyfork/model/GroupSums", "<init>", "()V"⟩ : MethodName)) (argsL := []) (rest := [(.ref a)]) (own_init l Z a0 hw h1 n0 (Nat.le_of_lt (Nat.lt_of_le_of_lt ge S0.lt)) a ge S0) rfl (hw _ (List.mem_of_getElem? (i := 7) rfl)) (hw _ (List.mem_of_getElem? (i := 8) rfl)) (hw _ (List.mem_of_getElem? (i := 6) rfl)) (hw _ (List.mem_of_getElem? (i := 9) rfl)) (by decide) at_66 (lenOf pd_4 rfl) rfl rfl (by decide) (W := 1) (Nat.le_of_eq rfl) (by decide) (by decide) (by decide) (q := 69) rfl
    replace w := w [(.ref a)] rfl
    replace w := w.astore (q := 71) (l' := #[.val (.int x0), .val (.int x1), .val (.int x2), .val (.int x3), .val (.int x4), .val (.int x5), .val (.int (1 : Int32)), .val (.int c_x1), .val (.int (0 : Int32)), .val (.int (0 : Int32)), .val (.int (0 : Int32)), .val (.ref a), .unset, .unset, .unset, .unset, .unset]) at_69 rfl rfl rfl
    replace w := w.aload (q := 73) (v := (.ref a)) at_71 rfl rfl rfl
    replace w := w.iload (q := 75) (v := (1 : Int32)) at_73 rfl rfl
    obtain ⟨_, h176, ⟨rfl, S⟩, w⟩ := w.callV (a := a) (y := (⟨"com/example/lucky_fork/luckyfork/model/GroupSums", "clear", "(I)V"⟩ : MethodName)) (argsL := [(.int (1 : Int32))]) (rest := []) (own_clear_1 l Z a0 hw _ n0 S.z0 a r c p S) (S.1.1) (hw _ (List.mem_of_getElem? (i := 23) rfl)) (hw _ (List.mem_of_getElem? (i := 24) rfl)) (hw _ (List.mem_of_getElem? (i := 26) rfl)) (hw _ (List.mem_of_getElem? (i := 25) rfl)) (hw _ (List.mem_of_getElem? (i := 6) rfl)) (hw _ (List.mem_of_getElem? (i := 27) rfl)) (by decide) at_75 (lenOf pd_3 rfl) rfl rfl (by decide) (W := 0) (Nat.le_of_eq rfl) (by decide) (by decide) (by decide) (q := 78) rfl
    replace w := w [] rfl
    replace w := w.aload (q := 80) (v := (.ref a)) at_78 rfl rfl rfl
    replace w := w.iconst (q := 81) (z := (0 : Int32)) at_80 (by decide) rfl
    replace w := w.dconst0 (q := 82) (z := 0) at_81 rfl rfl
    replace w := w.iload (q := 84) (v := c_x1) at_82 rfl rfl
    obtain ⟨_, h177, ⟨rfl, S⟩, w⟩ := w.callV (a := a) (y := (⟨"com/example/lucky_fork/luckyfork/model/GroupSums", "set", "(IDI)V"⟩ : MethodName)) (argsL := [(.int (0 : Int32)), (.double (0 : UInt64)), (.int c_x1)]) (rest := []) (own_set_1_0 l Z a0 hw _ n0 S.z0 a r c p (0 : Int32) (0 : Int32) (0 : Int32) (0 : Int32) (0 : Int32) (0 : Int32) (0 : Int32) (0 : Int32) (0 : Int32) (0 : Int32) (0 : Int32) c_x1 S) (S.1.1) (hw _ (List.mem_of_getElem? (i := 39) rfl)) (hw _ (List.mem_of_getElem? (i := 40) rfl)) (hw _ (List.mem_of_getElem? (i := 42) rfl)) (hw _ (List.mem_of_getElem? (i := 41) rfl)) (hw _ (List.mem_of_getElem? (i := 6) rfl)) (hw _ (List.mem_of_getElem? (i := 43) rfl)) (by decide) at_84 (lenOf pd_5 rfl) rfl rfl (by decide) (W := 0) (Nat.le_of_eq rfl) (by decide) (by decide) (by decide) (q := 87) rfl
    replace w := w [] rfl
    replace w := w.iload (q := 89) (v := (1 : Int32)) at_87 rfl rfl
    replace w := w.iconst (q := 90) (z := (1 : Int32)) at_89 (by decide) rfl
    obtain ⟨-, w⟩ := (w.icmpLe (q := 102) (q' := 93) (xi := 1) (yi := 1) at_90 rfl rfl (by decide) (by decide) rfl).resolve_right (fun g => by have hc90 := g.1; revert hc90; decide)
    replace w := w.iload (q := 104) (v := (1 : Int32)) at_102 rfl rfl
    replace w := w.iconst (q := 105) (z := (2 : Int32)) at_104 (by decide) rfl
    obtain ⟨-, w⟩ := (w.icmpLe (q := 117) (q' := 108) (xi := 1) (yi := 2) at_105 rfl rfl (by decide) (by decide) rfl).resolve_right (fun g => by have hc105 := g.1; revert hc105; decide)
    replace w := w.iload (q := 119) (v := (1 : Int32)) at_117 rfl rfl
    replace w := w.iconst (q := 120) (z := (3 : Int32)) at_119 (by decide) rfl
    obtain ⟨-, w⟩ := (w.icmpLe (q := 132) (q' := 123) (xi := 1) (yi := 3) at_120 rfl rfl (by decide) (by decide) rfl).resolve_right (fun g => by have hc120 := g.1; revert hc120; decide)
    replace w := w.aload (q := 134) (v := (.ref a)) at_132 rfl rfl rfl
    obtain ⟨_, h178, ⟨rfl, S⟩, w⟩ := w.callV (a := a) (y := (⟨"com/example/lucky_fork/luckyfork/model/GroupSums", "settle", "()V"⟩ : MethodName)) (argsL := []) (rest := []) (own_settle_1 l Z a0 hw _ n0 S.z0 a r c p (0 : Int32) (0 : Int32) c_x1 (0 : Int32) (0 : Int32) (0 : Int32) (0 : Int32) (0 : Int32) (0 : Int32) (0 : Int32)  S ) (S.1.1) (hw _ (List.mem_of_getElem? (i := 46) rfl)) (hw _ (List.mem_of_getElem? (i := 47) rfl)) (hw _ (List.mem_of_getElem? (i := 49) rfl)) (hw _ (List.mem_of_getElem? (i := 48) rfl)) (hw _ (List.mem_of_getElem? (i := 6) rfl)) (hw _ (List.mem_of_getElem? (i := 50) rfl)) (by decide) at_134 (lenOf pd_4 rfl) rfl rfl (by decide) (W := 0) (Nat.le_of_eq rfl) (by decide) (by decide) (by decide) (q := 137) rfl
    replace w := w [] rfl
    have e00 : (0 : Int32).toInt = 0 := rfl
    replace w := w.iload (q := 139) (v := c_x1) at_137 rfl rfl
    replace w := w.iload (q := 141) (v := (0 : Int32)) at_139 rfl rfl
    obtain ⟨z179, hz179⟩ : ∃ z : Int32, c_x1 + (0 : Int32) = z := ⟨_, rfl⟩
    replace w := w.iadd (q := 142) at_141 hz179 rfl
    have fz179 := own_add hz179 (by omega) (by omega) (by omega) (by omega)
    replace w := w.iload (q := 144) (v := (0 : Int32)) at_142 rfl rfl
    obtain ⟨z180, hz180⟩ : ∃ z : Int32, z179 + (0 : Int32) = z := ⟨_, rfl⟩
    replace w := w.iadd (q := 145) at_144 hz180 rfl
    have fz180 := own_add hz180 (by omega) (by omega) (by omega) (by omega)
    replace w := w.iload (q := 147) (v := (0 : Int32)) at_145 rfl rfl
    obtain ⟨z181, hz181⟩ : ∃ z : Int32, z180 + (0 : Int32) = z := ⟨_, rfl⟩
    replace w := w.iadd (q := 148) at_147 hz181 rfl
    have fz181 := own_add hz181 (by omega) (by omega) (by omega) (by omega)
    replace w := w.istore (q := 150) (l' := #[.val (.int x0), .val (.int x1), .val (.int x2), .val (.int x3), .val (.int x4), .val (.int x5), .val (.int (1 : Int32)), .val (.int c_x1), .val (.int (0 : Int32)), .val (.int (0 : Int32)), .val (.int (0 : Int32)), .val (.ref a), .val (.int z181), .unset, .unset, .unset, .unset]) at_148 rfl rfl
    replace w := w.aload (q := 152) (v := (.ref a)) at_150 rfl rfl rfl
    obtain ⟨_, h182, ⟨rfl, S⟩, w⟩ := w.callV (a := a) (y := (⟨"com/example/lucky_fork/luckyfork/model/GroupSums", "size", "()I"⟩ : MethodName)) (argsL := []) (rest := []) (own_size_1 l Z a0 hw _ n0 S.z0 a r c p (0 : Int32) (0 : Int32) (0 : Int32) (0 : Int32) (0 : Int32) c_x1 (1 : Int32) (0 : Int32) (0 : Int32) (0 : Int32) (0 : Int32) (0 : Int32) (0 : Int32) (0 : Int32)  S ) (S.1.1) (hw _ (List.mem_of_getElem? (i := 51) rfl)) (hw _ (List.mem_of_getElem? (i := 52) rfl)) (hw _ (List.mem_of_getElem? (i := 54) rfl)) (hw _ (List.mem_of_getElem? (i := 53) rfl)) (hw _ (List.mem_of_getElem? (i := 6) rfl)) (hw _ (List.mem_of_getElem? (i := 55) rfl)) (by decide) at_152 (lenOf pd_6 rfl) rfl rfl (by decide) (W := 0) (Nat.le_of_eq rfl) (by decide) (by decide) (by decide) (q := 155) rfl
    replace w := w [(.int c_x1)] rfl
    replace w := w.iload (q := 157) (v := z181) at_155 rfl rfl
    obtain ⟨hc157, w⟩ := (w.icmpEq (q := 162) (q' := 160) (xi := c_x1.toInt) (yi := z181.toInt) at_157 rfl rfl (by decide) (by decide) rfl).resolve_right (fun g => by have hc157 := g.1; omega)
    replace w := w.iload (q := 164) (v := z181) at_162 rfl rfl
    rcases w.ifNe (q := 169) (q' := 167) (xi := z181.toInt) at_164 rfl (by decide) (by decide) rfl with ⟨hc164, w⟩ | ⟨hc164, w⟩
    · replace w := w.iload (q := 171) (v := x5) at_169 rfl rfl
      replace w := w.ldcI (q := 173) (z := (2147483647 : Int32)) (hw _ (List.mem_of_getElem? (i := 73) rfl)) at_171 rfl
      obtain ⟨zk, hzk⟩ : ∃ z : Int32, x5 &&& (2147483647 : Int32) = z := ⟨_, rfl⟩
      replace w := w.iand (q := 174) at_173 hzk rfl
      replace w := w.iload (q := 176) (v := z181) at_174 rfl rfl
      obtain ⟨i, hi⟩ : ∃ z : Int32, zk % z181 = z := ⟨_, rfl⟩
      replace w := w.irem (q := 177) at_176 (own_nz hc164) hi rfl
      have ib := own_rem hi (by rw [← hzk]; exact own_mask _) (by omega)
      replace w := w.istore (q := 179) (l' := #[.val (.int x0), .val (.int x1), .val (.int x2), .val (.int x3), .val (.int x4), .val (.int x5), .val (.int (1 : Int32)), .val (.int c_x1), .val (.int (0 : Int32)), .val (.int (0 : Int32)), .val (.int (0 : Int32)), .val (.ref a), .val (.int z181), .val (.int i), .unset, .unset, .unset]) at_177 rfl rfl
      replace w := w.iload (q := 181) (v := i) at_179 rfl rfl
      replace w := w.iload (q := 183) (v := c_x1) at_181 rfl rfl
      rcases w.icmpGe (q := 195) (q' := 186) (xi := i.toInt) (yi := c_x1.toInt) at_183 rfl rfl (by decide) (by decide) rfl with ⟨hc183, w⟩ | ⟨hc183, w⟩
      · replace w := w.iload (q := 197) (v := i) at_195 rfl rfl
        replace w := w.iload (q := 199) (v := c_x1) at_197 rfl rfl
        replace w := w.iload (q := 201) (v := (0 : Int32)) at_199 rfl rfl
        obtain ⟨z183, hz183⟩ : ∃ z : Int32, c_x1 + (0 : Int32) = z := ⟨_, rfl⟩
        replace w := w.iadd (q := 202) at_201 hz183 rfl
        have fz183 := own_add hz183 (by omega) (by omega) (by omega) (by omega)
        rcases w.icmpGe (q := 215) (q' := 205) (xi := i.toInt) (yi := z183.toInt) at_202 rfl rfl (by decide) (by decide) rfl with ⟨hc202, w⟩ | ⟨hc202, w⟩
        · replace w := w.iload (q := 217) (v := i) at_215 rfl rfl
          replace w := w.iload (q := 219) (v := c_x1) at_217 rfl rfl
          replace w := w.iload (q := 221) (v := (0 : Int32)) at_219 rfl rfl
          obtain ⟨z184, hz184⟩ : ∃ z : Int32, c_x1 + (0 : Int32) = z := ⟨_, rfl⟩
          replace w := w.iadd (q := 222) at_221 hz184 rfl
          have fz184 := own_add hz184 (by omega) (by omega) (by omega) (by omega)
          replace w := w.iload (q := 224) (v := (0 : Int32)) at_222 rfl rfl
          obtain ⟨z185, hz185⟩ : ∃ z : Int32, z184 + (0 : Int32) = z := ⟨_, rfl⟩
          replace w := w.iadd (q := 225) at_224 hz185 rfl
          have fz185 := own_add hz185 (by omega) (by omega) (by omega) (by omega)
          rcases w.icmpGe (q := 241) (q' := 228) (xi := i.toInt) (yi := z185.toInt) at_225 rfl rfl (by decide) (by decide) rfl with ⟨hc225, w⟩ | ⟨hc225, w⟩
          · replace w := w.iconst (q := 242) (z := (3 : Int32)) at_241 (by decide) rfl
            replace w := w.istore (q := 244) (l' := #[.val (.int x0), .val (.int x1), .val (.int x2), .val (.int x3), .val (.int x4), .val (.int x5), .val (.int (1 : Int32)), .val (.int c_x1), .val (.int (0 : Int32)), .val (.int (0 : Int32)), .val (.int (0 : Int32)), .val (.ref a), .val (.int z181), .val (.int i), .val (.int (3 : Int32)), .unset, .unset]) at_242 rfl rfl
            replace w := w.iload (q := 246) (v := c_x1) at_244 rfl rfl
            replace w := w.iload (q := 248) (v := (0 : Int32)) at_246 rfl rfl
            obtain ⟨z186, hz186⟩ : ∃ z : Int32, c_x1 + (0 : Int32) = z := ⟨_, rfl⟩
            replace w := w.iadd (q := 249) at_248 hz186 rfl
            have fz186 := own_add hz186 (by omega) (by omega) (by omega) (by omega)
            replace w := w.iload (q := 251) (v := (0 : Int32)) at_249 rfl rfl
            obtain ⟨z187, hz187⟩ : ∃ z : Int32, z186 + (0 : Int32) = z := ⟨_, rfl⟩
            replace w := w.iadd (q := 252) at_251 hz187 rfl
            have fz187 := own_add hz187 (by omega) (by omega) (by omega) (by omega)
            replace w := w.istore (q := 254) (l' := #[.val (.int x0), .val (.int x1), .val (.int x2), .val (.int x3), .val (.int x4), .val (.int x5), .val (.int (1 : Int32)), .val (.int c_x1), .val (.int (0 : Int32)), .val (.int (0 : Int32)), .val (.int (0 : Int32)), .val (.ref a), .val (.int z181), .val (.int i), .val (.int (3 : Int32)), .val (.int z187), .unset]) at_252 rfl rfl
            replace w := w.aload (q := 256) (v := (.ref a)) at_254 rfl rfl rfl
            replace w := w.iload (q := 258) (v := i) at_256 rfl rfl
            obtain ⟨_, h188, ⟨rr, bb, rfl, S, hrr⟩, w⟩ := w.callV (a := a) (y := (⟨"com/example/lucky_fork/luckyfork/model/GroupSums", "findByIndex", "(I)I"⟩ : MethodName)) (argsL := [(.int i)]) (rest := []) (own_find_1 l Z a0 hw _ n0 S.z0 a r c p (0 : Int32) (0 : Int32) (0 : Int32) (0 : Int32) (0 : Int32) c_x1 (1 : Int32) (0 : Int32) (0 : Int32) (0 : Int32) (0 : Int32) (0 : Int32) (0 : Int32) (0 : Int32) i S ) (S.1.1) (hw _ (List.mem_of_getElem? (i := 74) rfl)) (hw _ (List.mem_of_getElem? (i := 75) rfl)) (hw _ (List.mem_of_getElem? (i := 77) rfl)) (hw _ (List.mem_of_getElem? (i := 76) rfl)) (hw _ (List.mem_of_getElem? (i := 6) rfl)) (hw _ (List.mem_of_getElem? (i := 78) rfl)) (by decide) at_258 (lenOf pd_0 rfl) rfl rfl (by decide) (W := 0) (Nat.le_of_eq rfl) (by decide) (by decide) (by decide) (q := 261) rfl
            replace w := w [(.int rr)] rfl
            replace w := w.istore (q := 263) (l' := #[.val (.int x0), .val (.int x1), .val (.int x2), .val (.int x3), .val (.int x4), .val (.int x5), .val (.int (1 : Int32)), .val (.int c_x1), .val (.int (0 : Int32)), .val (.int (0 : Int32)), .val (.int (0 : Int32)), .val (.ref a), .val (.int z181), .val (.int i), .val (.int (3 : Int32)), .val (.int z187), .val (.int rr)]) at_261 rfl rfl
            replace w := w.iload (q := 265) (v := rr) at_263 rfl rfl
            replace w := w.iload (q := 267) (v := (3 : Int32)) at_265 rfl rfl
            rcases w.icmpNe (q := 284) (q' := 270) (xi := rr.toInt) (yi := 3) at_267 rfl rfl (by decide) (by decide) rfl with ⟨hc267, w⟩ | ⟨hc267, w⟩
            · replace w := w.iconst (q := 285) (z := (0 : Int32)) at_284 (by decide) rfl
              exfalso; omega
            · replace w := w.aload (q := 272) (v := (.ref a)) at_270 rfl rfl rfl
              obtain ⟨_, h189, ⟨rfl, S⟩, w⟩ := w.callV (a := a) (y := (⟨"com/example/lucky_fork/luckyfork/model/GroupSums", "countBefore", "()I"⟩ : MethodName)) (argsL := []) (rest := []) (own_cb_1 l Z a0 hw _ n0 S.z0 a r c p (0 : Int32) (0 : Int32) (0 : Int32) bb (0 : Int32) c_x1 (1 : Int32) (0 : Int32) (0 : Int32) (0 : Int32) (0 : Int32) (0 : Int32) (0 : Int32) (0 : Int32)  S ) (S.1.1) (hw _ (List.mem_of_getElem? (i := 81) rfl)) (hw _ (List.mem_of_getElem? (i := 82) rfl)) (hw _ (List.mem_of_getElem? (i := 84) rfl)) (hw _ (List.mem_of_getElem? (i := 83) rfl)) (hw _ (List.mem_of_getElem? (i := 6) rfl)) (hw _ (List.mem_of_getElem? (i := 85) rfl)) (by decide) at_272 (lenOf pd_6 rfl) rfl rfl (by decide) (W := 0) (Nat.le_of_eq rfl) (by decide) (by decide) (by decide) (q := 275) rfl
              replace w := w [(.int bb)] rfl
              replace w := w.iload (q := 277) (v := z187) at_275 rfl rfl
              rcases w.icmpNe (q := 284) (q' := 280) (xi := bb.toInt) (yi := z187.toInt) at_277 rfl rfl (by decide) (by decide) rfl with ⟨hc277, w⟩ | ⟨hc277, w⟩
              · replace w := w.iconst (q := 285) (z := (0 : Int32)) at_284 (by decide) rfl
                exfalso; omega
              · replace w := w.iconst (q := 281) (z := (1 : Int32)) at_280 (by decide) rfl
                replace w := w.goto (q := 285) at_281 (by decide) (by decide)
                exact w.retZ at_285 (z := 1) (by decide) rfl (by decide) (by decide)
          · replace w := w.iconst (q := 229) (z := (2 : Int32)) at_228 (by decide) rfl
            replace w := w.istore (q := 231) (l' := #[.val (.int x0), .val (.int x1), .val (.int x2), .val (.int x3), .val (.int x4), .val (.int x5), .val (.int (1 : Int32)), .val (.int c_x1), .val (.int (0 : Int32)), .val (.int (0 : Int32)), .val (.int (0 : Int32)), .val (.ref a), .val (.int z181), .val (.int i), .val (.int (2 : Int32)), .unset, .unset]) at_229 rfl rfl
            replace w := w.iload (q := 233) (v := c_x1) at_231 rfl rfl
            replace w := w.iload (q := 235) (v := (0 : Int32)) at_233 rfl rfl
            obtain ⟨z190, hz190⟩ : ∃ z : Int32, c_x1 + (0 : Int32) = z := ⟨_, rfl⟩
            replace w := w.iadd (q := 236) at_235 hz190 rfl
            have fz190 := own_add hz190 (by omega) (by omega) (by omega) (by omega)
            replace w := w.istore (q := 238) (l' := #[.val (.int x0), .val (.int x1), .val (.int x2), .val (.int x3), .val (.int x4), .val (.int x5), .val (.int (1 : Int32)), .val (.int c_x1), .val (.int (0 : Int32)), .val (.int (0 : Int32)), .val (.int (0 : Int32)), .val (.ref a), .val (.int z181), .val (.int i), .val (.int (2 : Int32)), .val (.int z190), .unset]) at_236 rfl rfl
            replace w := w.goto (q := 254) at_238 (by decide) (by decide)
            replace w := w.aload (q := 256) (v := (.ref a)) at_254 rfl rfl rfl
            replace w := w.iload (q := 258) (v := i) at_256 rfl rfl
            obtain ⟨_, h191, ⟨rr, bb, rfl, S, hrr⟩, w⟩ := w.callV (a := a) (y := (⟨"com/example/lucky_fork/luckyfork/model/GroupSums", "findByIndex", "(I)I"⟩ : MethodName)) (argsL := [(.int i)]) (rest := []) (own_find_1 l Z a0 hw _ n0 S.z0 a r c p (0 : Int32) (0 : Int32) (0 : Int32) (0 : Int32) (0 : Int32) c_x1 (1 : Int32) (0 : Int32) (0 : Int32) (0 : Int32) (0 : Int32) (0 : Int32) (0 : Int32) (0 : Int32) i S ) (S.1.1) (hw _ (List.mem_of_getElem? (i := 74) rfl)) (hw _ (List.mem_of_getElem? (i := 75) rfl)) (hw _ (List.mem_of_getElem? (i := 77) rfl)) (hw _ (List.mem_of_getElem? (i := 76) rfl)) (hw _ (List.mem_of_getElem? (i := 6) rfl)) (hw _ (List.mem_of_getElem? (i := 78) rfl)) (by decide) at_258 (lenOf pd_0 rfl) rfl rfl (by decide) (W := 0) (Nat.le_of_eq rfl) (by decide) (by decide) (by decide) (q := 261) rfl
            replace w := w [(.int rr)] rfl
            replace w := w.istore (q := 263) (l' := #[.val (.int x0), .val (.int x1), .val (.int x2), .val (.int x3), .val (.int x4), .val (.int x5), .val (.int (1 : Int32)), .val (.int c_x1), .val (.int (0 : Int32)), .val (.int (0 : Int32)), .val (.int (0 : Int32)), .val (.ref a), .val (.int z181), .val (.int i), .val (.int (2 : Int32)), .val (.int z190), .val (.int rr)]) at_261 rfl rfl
            replace w := w.iload (q := 265) (v := rr) at_263 rfl rfl
            replace w := w.iload (q := 267) (v := (2 : Int32)) at_265 rfl rfl
            rcases w.icmpNe (q := 284) (q' := 270) (xi := rr.toInt) (yi := 2) at_267 rfl rfl (by decide) (by decide) rfl with ⟨hc267, w⟩ | ⟨hc267, w⟩
            · replace w := w.iconst (q := 285) (z := (0 : Int32)) at_284 (by decide) rfl
              exfalso; omega
            · replace w := w.aload (q := 272) (v := (.ref a)) at_270 rfl rfl rfl
              obtain ⟨_, h192, ⟨rfl, S⟩, w⟩ := w.callV (a := a) (y := (⟨"com/example/lucky_fork/luckyfork/model/GroupSums", "countBefore", "()I"⟩ : MethodName)) (argsL := []) (rest := []) (own_cb_1 l Z a0 hw _ n0 S.z0 a r c p (0 : Int32) (0 : Int32) (0 : Int32) bb (0 : Int32) c_x1 (1 : Int32) (0 : Int32) (0 : Int32) (0 : Int32) (0 : Int32) (0 : Int32) (0 : Int32) (0 : Int32)  S ) (S.1.1) (hw _ (List.mem_of_getElem? (i := 81) rfl)) (hw _ (List.mem_of_getElem? (i := 82) rfl)) (hw _ (List.mem_of_getElem? (i := 84) rfl)) (hw _ (List.mem_of_getElem? (i := 83) rfl)) (hw _ (List.mem_of_getElem? (i := 6) rfl)) (hw _ (List.mem_of_getElem? (i := 85) rfl)) (by decide) at_272 (lenOf pd_6 rfl) rfl rfl (by decide) (W := 0) (Nat.le_of_eq rfl) (by decide) (by decide) (by decide) (q := 275) rfl
              replace w := w [(.int bb)] rfl
              replace w := w.iload (q := 277) (v := z190) at_275 rfl rfl
              rcases w.icmpNe (q := 284) (q' := 280) (xi := bb.toInt) (yi := z190.toInt) at_277 rfl rfl (by decide) (by decide) rfl with ⟨hc277, w⟩ | ⟨hc277, w⟩
              · replace w := w.iconst (q := 285) (z := (0 : Int32)) at_284 (by decide) rfl
                exfalso; omega
              · replace w := w.iconst (q := 281) (z := (1 : Int32)) at_280 (by decide) rfl
                replace w := w.goto (q := 285) at_281 (by decide) (by decide)
                exact w.retZ at_285 (z := 1) (by decide) rfl (by decide) (by decide)
        · replace w := w.iconst (q := 206) (z := (1 : Int32)) at_205 (by decide) rfl
          replace w := w.istore (q := 208) (l' := #[.val (.int x0), .val (.int x1), .val (.int x2), .val (.int x3), .val (.int x4), .val (.int x5), .val (.int (1 : Int32)), .val (.int c_x1), .val (.int (0 : Int32)), .val (.int (0 : Int32)), .val (.int (0 : Int32)), .val (.ref a), .val (.int z181), .val (.int i), .val (.int (1 : Int32)), .unset, .unset]) at_206 rfl rfl
          replace w := w.iload (q := 210) (v := c_x1) at_208 rfl rfl
          replace w := w.istore (q := 212) (l' := #[.val (.int x0), .val (.int x1), .val (.int x2), .val (.int x3), .val (.int x4), .val (.int x5), .val (.int (1 : Int32)), .val (.int c_x1), .val (.int (0 : Int32)), .val (.int (0 : Int32)), .val (.int (0 : Int32)), .val (.ref a), .val (.int z181), .val (.int i), .val (.int (1 : Int32)), .val (.int c_x1), .unset]) at_210 rfl rfl
          replace w := w.goto (q := 254) at_212 (by decide) (by decide)
          replace w := w.aload (q := 256) (v := (.ref a)) at_254 rfl rfl rfl
          replace w := w.iload (q := 258) (v := i) at_256 rfl rfl
          obtain ⟨_, h193, ⟨rr, bb, rfl, S, hrr⟩, w⟩ := w.callV (a := a) (y := (⟨"com/example/lucky_fork/luckyfork/model/GroupSums", "findByIndex", "(I)I"⟩ : MethodName)) (argsL := [(.int i)]) (rest := []) (own_find_1 l Z a0 hw _ n0 S.z0 a r c p (0 : Int32) (0 : Int32) (0 : Int32) (0 : Int32) (0 : Int32) c_x1 (1 : Int32) (0 : Int32) (0 : Int32) (0 : Int32) (0 : Int32) (0 : Int32) (0 : Int32) (0 : Int32) i S ) (S.1.1) (hw _ (List.mem_of_getElem? (i := 74) rfl)) (hw _ (List.mem_of_getElem? (i := 75) rfl)) (hw _ (List.mem_of_getElem? (i := 77) rfl)) (hw _ (List.mem_of_getElem? (i := 76) rfl)) (hw _ (List.mem_of_getElem? (i := 6) rfl)) (hw _ (List.mem_of_getElem? (i := 78) rfl)) (by decide) at_258 (lenOf pd_0 rfl) rfl rfl (by decide) (W := 0) (Nat.le_of_eq rfl) (by decide) (by decide) (by decide) (q := 261) rfl
          replace w := w [(.int rr)] rfl
          replace w := w.istore (q := 263) (l' := #[.val (.int x0), .val (.int x1), .val (.int x2), .val (.int x3), .val (.int x4), .val (.int x5), .val (.int (1 : Int32)), .val (.int c_x1), .val (.int (0 : Int32)), .val (.int (0 : Int32)), .val (.int (0 : Int32)), .val (.ref a), .val (.int z181), .val (.int i), .val (.int (1 : Int32)), .val (.int c_x1), .val (.int rr)]) at_261 rfl rfl
          replace w := w.iload (q := 265) (v := rr) at_263 rfl rfl
          replace w := w.iload (q := 267) (v := (1 : Int32)) at_265 rfl rfl
          rcases w.icmpNe (q := 284) (q' := 270) (xi := rr.toInt) (yi := 1) at_267 rfl rfl (by decide) (by decide) rfl with ⟨hc267, w⟩ | ⟨hc267, w⟩
          · replace w := w.iconst (q := 285) (z := (0 : Int32)) at_284 (by decide) rfl
            exfalso; omega
          · replace w := w.aload (q := 272) (v := (.ref a)) at_270 rfl rfl rfl
            obtain ⟨_, h194, ⟨rfl, S⟩, w⟩ := w.callV (a := a) (y := (⟨"com/example/lucky_fork/luckyfork/model/GroupSums", "countBefore", "()I"⟩ : MethodName)) (argsL := []) (rest := []) (own_cb_1 l Z a0 hw _ n0 S.z0 a r c p (0 : Int32) (0 : Int32) (0 : Int32) bb (0 : Int32) c_x1 (1 : Int32) (0 : Int32) (0 : Int32) (0 : Int32) (0 : Int32) (0 : Int32) (0 : Int32) (0 : Int32)  S ) (S.1.1) (hw _ (List.mem_of_getElem? (i := 81) rfl)) (hw _ (List.mem_of_getElem? (i := 82) rfl)) (hw _ (List.mem_of_getElem? (i := 84) rfl)) (hw _ (List.mem_of_getElem? (i := 83) rfl)) (hw _ (List.mem_of_getElem? (i := 6) rfl)) (hw _ (List.mem_of_getElem? (i := 85) rfl)) (by decide) at_272 (lenOf pd_6 rfl) rfl rfl (by decide) (W := 0) (Nat.le_of_eq rfl) (by decide) (by decide) (by decide) (q := 275) rfl
            replace w := w [(.int bb)] rfl
            replace w := w.iload (q := 277) (v := c_x1) at_275 rfl rfl
            rcases w.icmpNe (q := 284) (q' := 280) (xi := bb.toInt) (yi := c_x1.toInt) at_277 rfl rfl (by decide) (by decide) rfl with ⟨hc277, w⟩ | ⟨hc277, w⟩
            · replace w := w.iconst (q := 285) (z := (0 : Int32)) at_284 (by decide) rfl
              exfalso; omega
            · replace w := w.iconst (q := 281) (z := (1 : Int32)) at_280 (by decide) rfl
              replace w := w.goto (q := 285) at_281 (by decide) (by decide)
              exact w.retZ at_285 (z := 1) (by decide) rfl (by decide) (by decide)
      · replace w := w.iconst (q := 187) (z := (0 : Int32)) at_186 (by decide) rfl
        replace w := w.istore (q := 189) (l' := #[.val (.int x0), .val (.int x1), .val (.int x2), .val (.int x3), .val (.int x4), .val (.int x5), .val (.int (1 : Int32)), .val (.int c_x1), .val (.int (0 : Int32)), .val (.int (0 : Int32)), .val (.int (0 : Int32)), .val (.ref a), .val (.int z181), .val (.int i), .val (.int (0 : Int32)), .unset, .unset]) at_187 rfl rfl
        replace w := w.iconst (q := 190) (z := (0 : Int32)) at_189 (by decide) rfl
        replace w := w.istore (q := 192) (l' := #[.val (.int x0), .val (.int x1), .val (.int x2), .val (.int x3), .val (.int x4), .val (.int x5), .val (.int (1 : Int32)), .val (.int c_x1), .val (.int (0 : Int32)), .val (.int (0 : Int32)), .val (.int (0 : Int32)), .val (.ref a), .val (.int z181), .val (.int i), .val (.int (0 : Int32)), .val (.int (0 : Int32)), .unset]) at_190 rfl rfl
        replace w := w.goto (q := 254) at_192 (by decide) (by decide)
        replace w := w.aload (q := 256) (v := (.ref a)) at_254 rfl rfl rfl
        replace w := w.iload (q := 258) (v := i) at_256 rfl rfl
        obtain ⟨_, h195, ⟨rr, bb, rfl, S, hrr⟩, w⟩ := w.callV (a := a) (y := (⟨"com/example/lucky_fork/luckyfork/model/GroupSums", "findByIndex", "(I)I"⟩ : MethodName)) (argsL := [(.int i)]) (rest := []) (own_find_1 l Z a0 hw _ n0 S.z0 a r c p (0 : Int32) (0 : Int32) (0 : Int32) (0 : Int32) (0 : Int32) c_x1 (1 : Int32) (0 : Int32) (0 : Int32) (0 : Int32) (0 : Int32) (0 : Int32) (0 : Int32) (0 : Int32) i S ) (S.1.1) (hw _ (List.mem_of_getElem? (i := 74) rfl)) (hw _ (List.mem_of_getElem? (i := 75) rfl)) (hw _ (List.mem_of_getElem? (i := 77) rfl)) (hw _ (List.mem_of_getElem? (i := 76) rfl)) (hw _ (List.mem_of_getElem? (i := 6) rfl)) (hw _ (List.mem_of_getElem? (i := 78) rfl)) (by decide) at_258 (lenOf pd_0 rfl) rfl rfl (by decide) (W := 0) (Nat.le_of_eq rfl) (by decide) (by decide) (by decide) (q := 261) rfl
        replace w := w [(.int rr)] rfl
        replace w := w.istore (q := 263) (l' := #[.val (.int x0), .val (.int x1), .val (.int x2), .val (.int x3), .val (.int x4), .val (.int x5), .val (.int (1 : Int32)), .val (.int c_x1), .val (.int (0 : Int32)), .val (.int (0 : Int32)), .val (.int (0 : Int32)), .val (.ref a), .val (.int z181), .val (.int i), .val (.int (0 : Int32)), .val (.int (0 : Int32)), .val (.int rr)]) at_261 rfl rfl
        replace w := w.iload (q := 265) (v := rr) at_263 rfl rfl
        replace w := w.iload (q := 267) (v := (0 : Int32)) at_265 rfl rfl
        rcases w.icmpNe (q := 284) (q' := 270) (xi := rr.toInt) (yi := 0) at_267 rfl rfl (by decide) (by decide) rfl with ⟨hc267, w⟩ | ⟨hc267, w⟩
        · replace w := w.iconst (q := 285) (z := (0 : Int32)) at_284 (by decide) rfl
          exfalso; omega
        · replace w := w.aload (q := 272) (v := (.ref a)) at_270 rfl rfl rfl
          obtain ⟨_, h196, ⟨rfl, S⟩, w⟩ := w.callV (a := a) (y := (⟨"com/example/lucky_fork/luckyfork/model/GroupSums", "countBefore", "()I"⟩ : MethodName)) (argsL := []) (rest := []) (own_cb_1 l Z a0 hw _ n0 S.z0 a r c p (0 : Int32) (0 : Int32) (0 : Int32) bb (0 : Int32) c_x1 (1 : Int32) (0 : Int32) (0 : Int32) (0 : Int32) (0 : Int32) (0 : Int32) (0 : Int32) (0 : Int32)  S ) (S.1.1) (hw _ (List.mem_of_getElem? (i := 81) rfl)) (hw _ (List.mem_of_getElem? (i := 82) rfl)) (hw _ (List.mem_of_getElem? (i := 84) rfl)) (hw _ (List.mem_of_getElem? (i := 83) rfl)) (hw _ (List.mem_of_getElem? (i := 6) rfl)) (hw _ (List.mem_of_getElem? (i := 85) rfl)) (by decide) at_272 (lenOf pd_6 rfl) rfl rfl (by decide) (W := 0) (Nat.le_of_eq rfl) (by decide) (by decide) (by decide) (q := 275) rfl
          replace w := w [(.int bb)] rfl
          replace w := w.iload (q := 277) (v := (0 : Int32)) at_275 rfl rfl
          rcases w.icmpNe (q := 284) (q' := 280) (xi := bb.toInt) (yi := 0) at_277 rfl rfl (by decide) (by decide) rfl with ⟨hc277, w⟩ | ⟨hc277, w⟩
          · replace w := w.iconst (q := 285) (z := (0 : Int32)) at_284 (by decide) rfl
            exfalso; omega
          · replace w := w.iconst (q := 281) (z := (1 : Int32)) at_280 (by decide) rfl
            replace w := w.goto (q := 285) at_281 (by decide) (by decide)
            exact w.retZ at_285 (z := 1) (by decide) rfl (by decide) (by decide)
    · replace w := w.iconst (q := 168) (z := (1 : Int32)) at_167 (by decide) rfl
      exact w.retZ at_168 (z := 1) (by decide) rfl (by decide) (by decide)
  · replace w := w.istore (q := 7) (l' := #[.val (.int x0), .val (.int x1), .val (.int x2), .val (.int x3), .val (.int x4), .val (.int x5), .val (.int (2 : Int32)), .unset, .unset, .unset, .unset, .unset, .unset, .unset, .unset, .unset, .unset]) at_5 rfl rfl
    replace w := w.iloadN (q := 8) (v := x1) at_7 rfl rfl
    obtain ⟨_, _, ⟨eh, c_x1, rfl, bc_x1, dc_x1⟩, w⟩ := w.callS (y := (⟨"com/example/lucky_fork/luckyfork/model/GroupSumsFindByIndexPinLaw", "cnt", "(I)I"⟩ : MethodName)) (argsL := [(.int x1)]) (rest := []) (own_cnt l Z a0 hw h0 n0 Z0 x1) (hw _ (List.mem_of_getElem? (i := 0) rfl)) (hw _ (List.mem_of_getElem? (i := 1) rfl)) (hw _ (List.mem_of_getElem? (i := 2) rfl)) (hw _ (List.mem_of_getElem? (i := 3) rfl)) (by decide) at_8 (lenOf pd_0 rfl) rfl rfl (by decide) (W := 0) (Nat.le_of_eq rfl) (by decide) (by decide) (by decide) (q := 11) rfl
    rw [eh] at w
    replace w := w [(.int c_x1)] rfl
    replace w := w.istore (q := 13) (l' := #[.val (.int x0), .val (.int x1), .val (.int x2), .val (.int x3), .val (.int x4), .val (.int x5), .val (.int (2 : Int32)), .val (.int c_x1), .unset, .unset, .unset, .unset, .unset, .unset, .unset, .unset, .unset]) at_11 rfl rfl
    replace w := w.iload (q := 15) (v := (2 : Int32)) at_13 rfl rfl
    replace w := w.iconst (q := 16) (z := (1 : Int32)) at_15 (by decide) rfl
    obtain ⟨-, w⟩ := (w.icmpLe (q := 26) (q' := 19) (xi := 2) (yi := 1) at_16 rfl rfl (by decide) (by decide) rfl).resolve_left (fun g => by have hc16 := g.1; revert hc16; decide)
    replace w := w.iloadN (q := 20) (v := x2) at_19 rfl rfl
    obtain ⟨_, _, ⟨eh, c_x2, rfl, bc_x2, dc_x2⟩, w⟩ := w.callS (y := (⟨"com/example/lucky_fork/luckyfork/model/GroupSumsFindByIndexPinLaw", "cnt", "(I)I"⟩ : MethodName)) (argsL := [(.int x2)]) (rest := []) (own_cnt l Z a0 hw h0 n0 Z0 x2) (hw _ (List.mem_of_getElem? (i := 0) rfl)) (hw _ (List.mem_of_getElem? (i := 1) rfl)) (hw _ (List.mem_of_getElem? (i := 2) rfl)) (hw _ (List.mem_of_getElem? (i := 3) rfl)) (by decide) at_20 (lenOf pd_0 rfl) rfl rfl (by decide) (W := 0) (Nat.le_of_eq rfl) (by decide) (by decide) (by decide) (q := 23) rfl
    rw [eh] at w
    replace w := w [(.int c_x2)] rfl
    replace w := w.goto (q := 27) at_23 (by decide) (by decide)
    replace w := w.istore (q := 29) (l' := #[.val (.int x0), .val (.int x1), .val (.int x2), .val (.int x3), .val (.int x4), .val (.int x5), .val (.int (2 : Int32)), .val (.int c_x1), .val (.int c_x2), .unset, .unset, .unset, .unset, .unset, .unset, .unset, .unset]) at_27 rfl rfl
    replace w := w.iload (q := 31) (v := (2 : Int32)) at_29 rfl rfl
    replace w := w.iconst (q := 32) (z := (2 : Int32)) at_31 (by decide) rfl
    obtain ⟨-, w⟩ := (w.icmpLe (q := 42) (q' := 35) (xi := 2) (yi := 2) at_32 rfl rfl (by decide) (by decide) rfl).resolve_right (fun g => by have hc32 := g.1; revert hc32; decide)
    replace w := w.iconst (q := 43) (z := (0 : Int32)) at_42 (by decide) rfl
    replace w := w.istore (q := 45) (l' := #[.val (.int x0), .val (.int x1), .val (.int x2), .val (.int x3), .val (.int x4), .val (.int x5), .val (.int (2 : Int32)), .val (.int c_x1), .val (.int c_x2), .val (.int (0 : Int32)), .unset, .unset, .unset, .unset, .unset, .unset, .unset]) at_43 rfl rfl
    replace w := w.iload (q := 47) (v := (2 : Int32)) at_45 rfl rfl
    replace w := w.iconst (q := 48) (z := (3 : Int32)) at_47 (by decide) rfl
    obtain ⟨-, w⟩ := (w.icmpLe (q := 59) (q' := 51) (xi := 2) (yi := 3) at_48 rfl rfl (by decide) (by decide) rfl).resolve_right (fun g => by have hc48 := g.1; revert hc48; decide)
    replace w := w.iconst (q := 60) (z := (0 : Int32)) at_59 (by decide) rfl
    replace w := w.istore (q := 62) (l' := #[.val (.int x0), .val (.int x1), .val (.int x2), .val (.int x3), .val (.int x4), .val (.int x5), .val (.int (2 : Int32)), .val (.int c_x1), .val (.int c_x2), .val (.int (0 : Int32)), .val (.int (0 : Int32)), .unset, .unset, .unset, .unset, .unset, .unset]) at_60 rfl rfl
    obtain ⟨h1, a, ea, E, A, D, w⟩ := w.newO (q := 65) (hw _ (List.mem_of_getElem? (i := 4) rfl)) (hw _ (List.mem_of_getElem? (i := 5) rfl)) (hw _ (List.mem_of_getElem? (i := 6) rfl)) at_62 (by decide) (by decide) rfl
    have Fleaves : Fld Z h1 a "com/example/lucky_fork/luckyfork/model/GroupSums" "leaves" "I" (.int (0 : Int32)) := D (Or.inl (hw _ (List.mem_of_getElem? (i := 14) rfl))) (ty := .int) (by decide)
    have Fdepth : Fld Z h1 a "com/example/lucky_fork/luckyfork/model/GroupSums" "depth" "I" (.int (0 : Int32)) := D (Or.inl (hw _ (List.mem_of_getElem? (i := 45) rfl))) (ty := .int) (by decide)
    have Frates : Fld Z h1 a "com/example/lucky_fork/luckyfork/model/GroupSums" "rates" "[D" .null := D (Or.inl (hw _ (List.mem_of_getElem? (i := 17) rfl))) (ty := (.array .double)) (by decide)
    have Fcounts : Fld Z h1 a "com/example/lucky_fork/luckyfork/model/GroupSums" "counts" "[I" .null := D (Or.inl (hw _ (List.mem_of_getElem? (i := 20) rfl))) (ty := (.array .int)) (by decide)
    have Fpending : Fld Z h1 a "com/example/lucky_fork/luckyfork/model/GroupSums" "pending" "[I" .null := D (Or.inl (hw _ (List.mem_of_getElem? (i := 22) rfl))) (ty := (.array .int)) (by decide)
    have FpendingCount : Fld Z h1 a "com/example/lucky_fork/luckyfork/model/GroupSums" "pendingCount" "I" (.int (0 : Int32)) := D (Or.inl (hw _ (List.mem_of_getElem? (i := 36) rfl))) (ty := .int) (by decide)
    have Frebuild : Fld Z h1 a "com/example/lucky_fork/luckyfork/model/GroupSums" "rebuild" "Z" (.int (0 : Int32)) := D (Or.inl (hw _ (List.mem_of_getElem? (i := 38) rfl))) (ty := .boolean) (by decide)
    have FcountBefore : Fld Z h1 a "com/example/lucky_fork/luckyfork/model/GroupSums" "countBefore" "I" (.int (0 : Int32)) := D (Or.inl (hw _ (List.mem_of_getElem? (i := 80) rfl))) (ty := .int) (by decide)
    have ge : n0 ≤ a := by rw [ea]; exact Z0
    have S0 : Gs Z h1 a (.int 0) (.int 0) .null .null .null (.int 0) (.int 0) (.int 0) := ⟨A, Fleaves, Fdepth, Frates, Fcounts, Fpending, FpendingCount, Frebuild, FcountBefore⟩
    replace w := w.dup (q := 66) at_65 rfl rfl
    obtain ⟨_, h2, ⟨rfl, r, c, p, S⟩, w⟩ := w.callI (a := a) (y := (⟨"com/example/lucky_fork/luckyfork/model/GroupSums", "<init>", "()V"⟩ : MethodName)) (argsL := []) (rest := [(.ref a)]) (own_init l Z a0 hw h1 n0 (Nat.le_of_lt (Nat.lt_of_le_of_lt ge S0.lt)) a ge S0) rfl (hw _ (List.mem_of_getElem? (i := 7) rfl)) (hw _ (List.mem_of_getElem? (i := 8) rfl)) (hw _ (List.mem_of_getElem? (i := 6) rfl)) (hw _ (List.mem_of_getElem? (i := 9) rfl)) (by decide) at_66 (lenOf pd_4 rfl) rfl rfl (by decide) (W := 1) (Nat.le_of_eq rfl) (by decide) (by decide) (by decide) (q := 69) rfl
    replace w := w [(.ref a)] rfl
    replace w := w.astore (q := 71) (l' := #[.val (.int x0), .val (.int x1), .val (.int x2), .val (.int x3), .val (.int x4), .val (.int x5), .val (.int (2 : Int32)), .val (.int c_x1), .val (.int c_x2), .val (.int (0 : Int32)), .val (.int (0 : Int32)), .val (.ref a), .unset, .unset, .unset, .unset, .unset]) at_69 rfl rfl rfl
    replace w := w.aload (q := 73) (v := (.ref a)) at_71 rfl rfl rfl
    replace w := w.iload (q := 75) (v := (2 : Int32)) at_73 rfl rfl
    obtain ⟨_, h197, ⟨rfl, r, c, S⟩, w⟩ := w.callV (a := a) (y := (⟨"com/example/lucky_fork/luckyfork/model/GroupSums", "clear", "(I)V"⟩ : MethodName)) (argsL := [(.int (2 : Int32))]) (rest := []) (own_clear_2 l Z a0 hw _ n0 S.z0 a r c p S) (S.1.1) (hw _ (List.mem_of_getElem? (i := 23) rfl)) (hw _ (List.mem_of_getElem? (i := 24) rfl)) (hw _ (List.mem_of_getElem? (i := 26) rfl)) (hw _ (List.mem_of_getElem? (i := 25) rfl)) (hw _ (List.mem_of_getElem? (i := 6) rfl)) (hw _ (List.mem_of_getElem? (i := 27) rfl)) (by decide) at_75 (lenOf pd_3 rfl) rfl rfl (by decide) (W := 0) (Nat.le_of_eq rfl) (by decide) (by decide) (by decide) (q := 78) rfl
    replace w := w [] rfl
    replace w := w.aload (q := 80) (v := (.ref a)) at_78 rfl rfl rfl
    replace w := w.iconst (q := 81) (z := (0 : Int32)) at_80 (by decide) rfl
    replace w := w.dconst0 (q := 82) (z := 0) at_81 rfl rfl
    replace w := w.iload (q := 84) (v := c_x1) at_82 rfl rfl
    obtain ⟨_, h198, ⟨rfl, S⟩, w⟩ := w.callV (a := a) (y := (⟨"com/example/lucky_fork/luckyfork/model/GroupSums", "set", "(IDI)V"⟩ : MethodName)) (argsL := [(.int (0 : Int32)), (.double (0 : UInt64)), (.int c_x1)]) (rest := []) (own_set_2_0 l Z a0 hw _ n0 S.z0 a r c p (0 : Int32) (0 : Int32) (0 : Int32) (0 : Int32) (0 : Int32) (0 : Int32) (0 : Int32) (0 : Int32) (0 : Int32) (0 : Int32) (0 : Int32) (0 : Int32) (0 : Int32) c_x1 S) (S.1.1) (hw _ (List.mem_of_getElem? (i := 39) rfl)) (hw _ (List.mem_of_getElem? (i := 40) rfl)) (hw _ (List.mem_of_getElem? (i := 42) rfl)) (hw _ (List.mem_of_getElem? (i := 41) rfl)) (hw _ (List.mem_of_getElem? (i := 6) rfl)) (hw _ (List.mem_of_getElem? (i := 43) rfl)) (by decide) at_84 (lenOf pd_5 rfl) rfl rfl (by decide) (W := 0) (Nat.le_of_eq rfl) (by decide) (by decide) (by decide) (q := 87) rfl
    replace w := w [] rfl
    replace w := w.iload (q := 89) (v := (2 : Int32)) at_87 rfl rfl
    replace w := w.iconst (q := 90) (z := (1 : Int32)) at_89 (by decide) rfl
    obtain ⟨-, w⟩ := (w.icmpLe (q := 102) (q' := 93) (xi := 2) (yi := 1) at_90 rfl rfl (by decide) (by decide) rfl).resolve_left (fun g => by have hc90 := g.1; revert hc90; decide)
    replace w := w.aload (q := 95) (v := (.ref a)) at_93 rfl rfl rfl
    replace w := w.iconst (q := 96) (z := (1 : Int32)) at_95 (by decide) rfl
    replace w := w.dconst0 (q := 97) (z := 0) at_96 rfl rfl
    replace w := w.iload (q := 99) (v := c_x2) at_97 rfl rfl
    obtain ⟨_, h199, ⟨rfl, S⟩, w⟩ := w.callV (a := a) (y := (⟨"com/example/lucky_fork/luckyfork/model/GroupSums", "set", "(IDI)V"⟩ : MethodName)) (argsL := [(.int (1 : Int32)), (.double (0 : UInt64)), (.int c_x2)]) (rest := []) (own_set_2_1 l Z a0 hw _ n0 S.z0 a r c p (0 : Int32) (0 : Int32) (0 : Int32) c_x1 (0 : Int32) (2 : Int32) (0 : Int32) (0 : Int32) (0 : Int32) (0 : Int32) (0 : Int32) (0 : Int32) (0 : Int32) c_x2 S) (S.1.1) (hw _ (List.mem_of_getElem? (i := 39) rfl)) (hw _ (List.mem_of_getElem? (i := 40) rfl)) (hw _ (List.mem_of_getElem? (i := 42) rfl)) (hw _ (List.mem_of_getElem? (i := 41) rfl)) (hw _ (List.mem_of_getElem? (i := 6) rfl)) (hw _ (List.mem_of_getElem? (i := 43) rfl)) (by decide) at_99 (lenOf pd_5 rfl) rfl rfl (by decide) (W := 0) (Nat.le_of_eq rfl) (by decide) (by decide) (by decide) (q := 102) rfl
    replace w := w [] rfl
    replace w := w.iload (q := 104) (v := (2 : Int32)) at_102 rfl rfl
    replace w := w.iconst (q := 105) (z := (2 : Int32)) at_104 (by decide) rfl
    obtain ⟨-, w⟩ := (w.icmpLe (q := 117) (q' := 108) (xi := 2) (yi := 2) at_105 rfl rfl (by decide) (by decide) rfl).resolve_right (fun g => by have hc105 := g.1; revert hc105; decide)
    replace w := w.iload (q := 119) (v := (2 : Int32)) at_117 rfl rfl
    replace w := w.iconst (q := 120) (z := (3 : Int32)) at_119 (by decide) rfl
    obtain ⟨-, w⟩ := (w.icmpLe (q := 132) (q' := 123) (xi := 2) (yi := 3) at_120 rfl rfl (by decide) (by decide) rfl).resolve_right (fun g => by have hc120 := g.1; revert hc120; decide)
    replace w := w.aload (q := 134) (v := (.ref a)) at_132 rfl rfl rfl
    obtain ⟨_, h200, ⟨rfl, S⟩, w⟩ := w.callV (a := a) (y := (⟨"com/example/lucky_fork/luckyfork/model/GroupSums", "settle", "()V"⟩ : MethodName)) (argsL := []) (rest := []) (own_settle_2 l Z a0 hw _ n0 S.z0 a r c p (0 : Int32) (0 : Int32) (0 : Int32) c_x1 c_x2 (0 : Int32) (0 : Int32) (0 : Int32) (0 : Int32) (0 : Int32) (0 : Int32)  S ) (S.1.1) (hw _ (List.mem_of_getElem? (i := 46) rfl)) (hw _ (List.mem_of_getElem? (i := 47) rfl)) (hw _ (List.mem_of_getElem? (i := 49) rfl)) (hw _ (List.mem_of_getElem? (i := 48) rfl)) (hw _ (List.mem_of_getElem? (i := 6) rfl)) (hw _ (List.mem_of_getElem? (i := 50) rfl)) (by decide) at_134 (lenOf pd_4 rfl) rfl rfl (by decide) (W := 0) (Nat.le_of_eq rfl) (by decide) (by decide) (by decide) (q := 137) rfl
    replace w := w [] rfl
    have e00 : (0 : Int32).toInt = 0 := rfl
    obtain ⟨s1, hs1⟩ : ∃ z : Int32, (c_x1 + c_x2) = z := ⟨_, rfl⟩
    rw [hs1] at S
    have fs1 := own_add hs1 (by omega) (by omega) (by omega) (by omega)
    replace S : Gt Z h200 n0 a r c p (2 : Int32) (1 : Int32) (0 : Int32) (0 : Int32) (0 : Int32) [(.double (0 : UInt64)), (.double (0 : UInt64)), (.double (0 : UInt64)), (.double (0 : UInt64))] [(.int (0 : Int32)), (.int s1), (.int c_x1), (.int c_x2)] [(.int (2 : Int32)), (.int (3 : Int32)), (.int (0 : Int32)), (.int (0 : Int32)), (.int (0 : Int32)), (.int (0 : Int32)), (.int (0 : Int32)), (.int (0 : Int32))] := S
    replace w := w.iload (q := 139) (v := c_x1) at_137 rfl rfl
    replace w := w.iload (q := 141) (v := c_x2) at_139 rfl rfl
    obtain ⟨z201, hz201⟩ : ∃ z : Int32, c_x1 + c_x2 = z := ⟨_, rfl⟩
    replace w := w.iadd (q := 142) at_141 hz201 rfl
    have fz201 := own_add hz201 (by omega) (by omega) (by omega) (by omega)
    replace w := w.iload (q := 144) (v := (0 : Int32)) at_142 rfl rfl
    obtain ⟨z202, hz202⟩ : ∃ z : Int32, z201 + (0 : Int32) = z := ⟨_, rfl⟩
    replace w := w.iadd (q := 145) at_144 hz202 rfl
    have fz202 := own_add hz202 (by omega) (by omega) (by omega) (by omega)
    replace w := w.iload (q := 147) (v := (0 : Int32)) at_145 rfl rfl
    obtain ⟨z203, hz203⟩ : ∃ z : Int32, z202 + (0 : Int32) = z := ⟨_, rfl⟩
    replace w := w.iadd (q := 148) at_147 hz203 rfl
    have fz203 := own_add hz203 (by omega) (by omega) (by omega) (by omega)
    replace w := w.istore (q := 150) (l' := #[.val (.int x0), .val (.int x1), .val (.int x2), .val (.int x3), .val (.int x4), .val (.int x5), .val (.int (2 : Int32)), .val (.int c_x1), .val (.int c_x2), .val (.int (0 : Int32)), .val (.int (0 : Int32)), .val (.ref a), .val (.int z203), .unset, .unset, .unset, .unset]) at_148 rfl rfl
    replace w := w.aload (q := 152) (v := (.ref a)) at_150 rfl rfl rfl
    obtain ⟨_, h204, ⟨rfl, S⟩, w⟩ := w.callV (a := a) (y := (⟨"com/example/lucky_fork/luckyfork/model/GroupSums", "size", "()I"⟩ : MethodName)) (argsL := []) (rest := []) (own_size_2 l Z a0 hw _ n0 S.z0 a r c p (1 : Int32) (0 : Int32) (0 : Int32) (0 : Int32) (0 : Int32) s1 c_x1 c_x2 (2 : Int32) (3 : Int32) (0 : Int32) (0 : Int32) (0 : Int32) (0 : Int32) (0 : Int32) (0 : Int32)  S ) (S.1.1) (hw _ (List.mem_of_getElem? (i := 51) rfl)) (hw _ (List.mem_of_getElem? (i := 52) rfl)) (hw _ (List.mem_of_getElem? (i := 54) rfl)) (hw _ (List.mem_of_getElem? (i := 53) rfl)) (hw _ (List.mem_of_getElem? (i := 6) rfl)) (hw _ (List.mem_of_getElem? (i := 55) rfl)) (by decide) at_152 (lenOf pd_6 rfl) rfl rfl (by decide) (W := 0) (Nat.le_of_eq rfl) (by decide) (by decide) (by decide) (q := 155) rfl
    replace w := w [(.int s1)] rfl
    replace w := w.iload (q := 157) (v := z203) at_155 rfl rfl
    obtain ⟨hc157, w⟩ := (w.icmpEq (q := 162) (q' := 160) (xi := s1.toInt) (yi := z203.toInt) at_157 rfl rfl (by decide) (by decide) rfl).resolve_right (fun g => by have hc157 := g.1; omega)
    replace w := w.iload (q := 164) (v := z203) at_162 rfl rfl
    rcases w.ifNe (q := 169) (q' := 167) (xi := z203.toInt) at_164 rfl (by decide) (by decide) rfl with ⟨hc164, w⟩ | ⟨hc164, w⟩
    · replace w := w.iload (q := 171) (v := x5) at_169 rfl rfl
      replace w := w.ldcI (q := 173) (z := (2147483647 : Int32)) (hw _ (List.mem_of_getElem? (i := 73) rfl)) at_171 rfl
      obtain ⟨zk, hzk⟩ : ∃ z : Int32, x5 &&& (2147483647 : Int32) = z := ⟨_, rfl⟩
      replace w := w.iand (q := 174) at_173 hzk rfl
      replace w := w.iload (q := 176) (v := z203) at_174 rfl rfl
      obtain ⟨i, hi⟩ : ∃ z : Int32, zk % z203 = z := ⟨_, rfl⟩
      replace w := w.irem (q := 177) at_176 (own_nz hc164) hi rfl
      have ib := own_rem hi (by rw [← hzk]; exact own_mask _) (by omega)
      replace w := w.istore (q := 179) (l' := #[.val (.int x0), .val (.int x1), .val (.int x2), .val (.int x3), .val (.int x4), .val (.int x5), .val (.int (2 : Int32)), .val (.int c_x1), .val (.int c_x2), .val (.int (0 : Int32)), .val (.int (0 : Int32)), .val (.ref a), .val (.int z203), .val (.int i), .unset, .unset, .unset]) at_177 rfl rfl
      replace w := w.iload (q := 181) (v := i) at_179 rfl rfl
      replace w := w.iload (q := 183) (v := c_x1) at_181 rfl rfl
      rcases w.icmpGe (q := 195) (q' := 186) (xi := i.toInt) (yi := c_x1.toInt) at_183 rfl rfl (by decide) (by decide) rfl with ⟨hc183, w⟩ | ⟨hc183, w⟩
      · replace w := w.iload (q := 197) (v := i) at_195 rfl rfl
        replace w := w.iload (q := 199) (v := c_x1) at_197 rfl rfl
        replace w := w.iload (q := 201) (v := c_x2) at_199 rfl rfl
        obtain ⟨z205, hz205⟩ : ∃ z : Int32, c_x1 + c_x2 = z := ⟨_, rfl⟩
        replace w := w.iadd (q := 202) at_201 hz205 rfl
        have fz205 := own_add hz205 (by omega) (by omega) (by omega) (by omega)
        rcases w.icmpGe (q := 215) (q' := 205) (xi := i.toInt) (yi := z205.toInt) at_202 rfl rfl (by decide) (by decide) rfl with ⟨hc202, w⟩ | ⟨hc202, w⟩
        · replace w := w.iload (q := 217) (v := i) at_215 rfl rfl
          replace w := w.iload (q := 219) (v := c_x1) at_217 rfl rfl
          replace w := w.iload (q := 221) (v := c_x2) at_219 rfl rfl
          obtain ⟨z206, hz206⟩ : ∃ z : Int32, c_x1 + c_x2 = z := ⟨_, rfl⟩
          replace w := w.iadd (q := 222) at_221 hz206 rfl
          have fz206 := own_add hz206 (by omega) (by omega) (by omega) (by omega)
          replace w := w.iload (q := 224) (v := (0 : Int32)) at_222 rfl rfl
          obtain ⟨z207, hz207⟩ : ∃ z : Int32, z206 + (0 : Int32) = z := ⟨_, rfl⟩
          replace w := w.iadd (q := 225) at_224 hz207 rfl
          have fz207 := own_add hz207 (by omega) (by omega) (by omega) (by omega)
          rcases w.icmpGe (q := 241) (q' := 228) (xi := i.toInt) (yi := z207.toInt) at_225 rfl rfl (by decide) (by decide) rfl with ⟨hc225, w⟩ | ⟨hc225, w⟩
          · replace w := w.iconst (q := 242) (z := (3 : Int32)) at_241 (by decide) rfl
            replace w := w.istore (q := 244) (l' := #[.val (.int x0), .val (.int x1), .val (.int x2), .val (.int x3), .val (.int x4), .val (.int x5), .val (.int (2 : Int32)), .val (.int c_x1), .val (.int c_x2), .val (.int (0 : Int32)), .val (.int (0 : Int32)), .val (.ref a), .val (.int z203), .val (.int i), .val (.int (3 : Int32)), .unset, .unset]) at_242 rfl rfl
            replace w := w.iload (q := 246) (v := c_x1) at_244 rfl rfl
            replace w := w.iload (q := 248) (v := c_x2) at_246 rfl rfl
            obtain ⟨z208, hz208⟩ : ∃ z : Int32, c_x1 + c_x2 = z := ⟨_, rfl⟩
            replace w := w.iadd (q := 249) at_248 hz208 rfl
            have fz208 := own_add hz208 (by omega) (by omega) (by omega) (by omega)
            replace w := w.iload (q := 251) (v := (0 : Int32)) at_249 rfl rfl
            obtain ⟨z209, hz209⟩ : ∃ z : Int32, z208 + (0 : Int32) = z := ⟨_, rfl⟩
            replace w := w.iadd (q := 252) at_251 hz209 rfl
            have fz209 := own_add hz209 (by omega) (by omega) (by omega) (by omega)
            replace w := w.istore (q := 254) (l' := #[.val (.int x0), .val (.int x1), .val (.int x2), .val (.int x3), .val (.int x4), .val (.int x5), .val (.int (2 : Int32)), .val (.int c_x1), .val (.int c_x2), .val (.int (0 : Int32)), .val (.int (0 : Int32)), .val (.ref a), .val (.int z203), .val (.int i), .val (.int (3 : Int32)), .val (.int z209), .unset]) at_252 rfl rfl
            replace w := w.aload (q := 256) (v := (.ref a)) at_254 rfl rfl rfl
            replace w := w.iload (q := 258) (v := i) at_256 rfl rfl
            obtain ⟨_, h210, ⟨rr, bb, rfl, S, hrr⟩, w⟩ := w.callV (a := a) (y := (⟨"com/example/lucky_fork/luckyfork/model/GroupSums", "findByIndex", "(I)I"⟩ : MethodName)) (argsL := [(.int i)]) (rest := []) (own_find_2 l Z a0 hw _ n0 S.z0 a r c p (1 : Int32) (0 : Int32) (0 : Int32) (0 : Int32) (0 : Int32) s1 c_x1 c_x2 (2 : Int32) (3 : Int32) (0 : Int32) (0 : Int32) (0 : Int32) (0 : Int32) (0 : Int32) (0 : Int32) i S ⟨by omega, by omega⟩) (S.1.1) (hw _ (List.mem_of_getElem? (i := 74) rfl)) (hw _ (List.mem_of_getElem? (i := 75) rfl)) (hw _ (List.mem_of_getElem? (i := 77) rfl)) (hw _ (List.mem_of_getElem? (i := 76) rfl)) (hw _ (List.mem_of_getElem? (i := 6) rfl)) (hw _ (List.mem_of_getElem? (i := 78) rfl)) (by decide) at_258 (lenOf pd_0 rfl) rfl rfl (by decide) (W := 0) (Nat.le_of_eq rfl) (by decide) (by decide) (by decide) (q := 261) rfl
            replace w := w [(.int rr)] rfl
            replace w := w.istore (q := 263) (l' := #[.val (.int x0), .val (.int x1), .val (.int x2), .val (.int x3), .val (.int x4), .val (.int x5), .val (.int (2 : Int32)), .val (.int c_x1), .val (.int c_x2), .val (.int (0 : Int32)), .val (.int (0 : Int32)), .val (.ref a), .val (.int z203), .val (.int i), .val (.int (3 : Int32)), .val (.int z209), .val (.int rr)]) at_261 rfl rfl
            replace w := w.iload (q := 265) (v := rr) at_263 rfl rfl
            replace w := w.iload (q := 267) (v := (3 : Int32)) at_265 rfl rfl
            rcases w.icmpNe (q := 284) (q' := 270) (xi := rr.toInt) (yi := 3) at_267 rfl rfl (by decide) (by decide) rfl with ⟨hc267, w⟩ | ⟨hc267, w⟩
            · replace w := w.iconst (q := 285) (z := (0 : Int32)) at_284 (by decide) rfl
              exfalso; omega
            · replace w := w.aload (q := 272) (v := (.ref a)) at_270 rfl rfl rfl
              obtain ⟨_, h211, ⟨rfl, S⟩, w⟩ := w.callV (a := a) (y := (⟨"com/example/lucky_fork/luckyfork/model/GroupSums", "countBefore", "()I"⟩ : MethodName)) (argsL := []) (rest := []) (own_cb_2 l Z a0 hw _ n0 S.z0 a r c p (1 : Int32) (0 : Int32) (0 : Int32) bb (0 : Int32) s1 c_x1 c_x2 (2 : Int32) (3 : Int32) (0 : Int32) (0 : Int32) (0 : Int32) (0 : Int32) (0 : Int32) (0 : Int32)  S ) (S.1.1) (hw _ (List.mem_of_getElem? (i := 81) rfl)) (hw _ (List.mem_of_getElem? (i := 82) rfl)) (hw _ (List.mem_of_getElem? (i := 84) rfl)) (hw _ (List.mem_of_getElem? (i := 83) rfl)) (hw _ (List.mem_of_getElem? (i := 6) rfl)) (hw _ (List.mem_of_getElem? (i := 85) rfl)) (by decide) at_272 (lenOf pd_6 rfl) rfl rfl (by decide) (W := 0) (Nat.le_of_eq rfl) (by decide) (by decide) (by decide) (q := 275) rfl
              replace w := w [(.int bb)] rfl
              replace w := w.iload (q := 277) (v := z209) at_275 rfl rfl
              rcases w.icmpNe (q := 284) (q' := 280) (xi := bb.toInt) (yi := z209.toInt) at_277 rfl rfl (by decide) (by decide) rfl with ⟨hc277, w⟩ | ⟨hc277, w⟩
              · replace w := w.iconst (q := 285) (z := (0 : Int32)) at_284 (by decide) rfl
                exfalso; omega
              · replace w := w.iconst (q := 281) (z := (1 : Int32)) at_280 (by decide) rfl
                replace w := w.goto (q := 285) at_281 (by decide) (by decide)
                exact w.retZ at_285 (z := 1) (by decide) rfl (by decide) (by decide)
          · replace w := w.iconst (q := 229) (z := (2 : Int32)) at_228 (by decide) rfl
            replace w := w.istore (q := 231) (l' := #[.val (.int x0), .val (.int x1), .val (.int x2), .val (.int x3), .val (.int x4), .val (.int x5), .val (.int (2 : Int32)), .val (.int c_x1), .val (.int c_x2), .val (.int (0 : Int32)), .val (.int (0 : Int32)), .val (.ref a), .val (.int z203), .val (.int i), .val (.int (2 : Int32)), .unset, .unset]) at_229 rfl rfl
            replace w := w.iload (q := 233) (v := c_x1) at_231 rfl rfl
            replace w := w.iload (q := 235) (v := c_x2) at_233 rfl rfl
            obtain ⟨z212, hz212⟩ : ∃ z : Int32, c_x1 + c_x2 = z := ⟨_, rfl⟩
            replace w := w.iadd (q := 236) at_235 hz212 rfl
            have fz212 := own_add hz212 (by omega) (by omega) (by omega) (by omega)
            replace w := w.istore (q := 238) (l' := #[.val (.int x0), .val (.int x1), .val (.int x2), .val (.int x3), .val (.int x4), .val (.int x5), .val (.int (2 : Int32)), .val (.int c_x1), .val (.int c_x2), .val (.int (0 : Int32)), .val (.int (0 : Int32)), .val (.ref a), .val (.int z203), .val (.int i), .val (.int (2 : Int32)), .val (.int z212), .unset]) at_236 rfl rfl
            replace w := w.goto (q := 254) at_238 (by decide) (by decide)
            replace w := w.aload (q := 256) (v := (.ref a)) at_254 rfl rfl rfl
            replace w := w.iload (q := 258) (v := i) at_256 rfl rfl
            obtain ⟨_, h213, ⟨rr, bb, rfl, S, hrr⟩, w⟩ := w.callV (a := a) (y := (⟨"com/example/lucky_fork/luckyfork/model/GroupSums", "findByIndex", "(I)I"⟩ : MethodName)) (argsL := [(.int i)]) (rest := []) (own_find_2 l Z a0 hw _ n0 S.z0 a r c p (1 : Int32) (0 : Int32) (0 : Int32) (0 : Int32) (0 : Int32) s1 c_x1 c_x2 (2 : Int32) (3 : Int32) (0 : Int32) (0 : Int32) (0 : Int32) (0 : Int32) (0 : Int32) (0 : Int32) i S ⟨by omega, by omega⟩) (S.1.1) (hw _ (List.mem_of_getElem? (i := 74) rfl)) (hw _ (List.mem_of_getElem? (i := 75) rfl)) (hw _ (List.mem_of_getElem? (i := 77) rfl)) (hw _ (List.mem_of_getElem? (i := 76) rfl)) (hw _ (List.mem_of_getElem? (i := 6) rfl)) (hw _ (List.mem_of_getElem? (i := 78) rfl)) (by decide) at_258 (lenOf pd_0 rfl) rfl rfl (by decide) (W := 0) (Nat.le_of_eq rfl) (by decide) (by decide) (by decide) (q := 261) rfl
            replace w := w [(.int rr)] rfl
            replace w := w.istore (q := 263) (l' := #[.val (.int x0), .val (.int x1), .val (.int x2), .val (.int x3), .val (.int x4), .val (.int x5), .val (.int (2 : Int32)), .val (.int c_x1), .val (.int c_x2), .val (.int (0 : Int32)), .val (.int (0 : Int32)), .val (.ref a), .val (.int z203), .val (.int i), .val (.int (2 : Int32)), .val (.int z212), .val (.int rr)]) at_261 rfl rfl
            replace w := w.iload (q := 265) (v := rr) at_263 rfl rfl
            replace w := w.iload (q := 267) (v := (2 : Int32)) at_265 rfl rfl
            rcases w.icmpNe (q := 284) (q' := 270) (xi := rr.toInt) (yi := 2) at_267 rfl rfl (by decide) (by decide) rfl with ⟨hc267, w⟩ | ⟨hc267, w⟩
            · replace w := w.iconst (q := 285) (z := (0 : Int32)) at_284 (by decide) rfl
              exfalso; omega
            · replace w := w.aload (q := 272) (v := (.ref a)) at_270 rfl rfl rfl
              obtain ⟨_, h214, ⟨rfl, S⟩, w⟩ := w.callV (a := a) (y := (⟨"com/example/lucky_fork/luckyfork/model/GroupSums", "countBefore", "()I"⟩ : MethodName)) (argsL := []) (rest := []) (own_cb_2 l Z a0 hw _ n0 S.z0 a r c p (1 : Int32) (0 : Int32) (0 : Int32) bb (0 : Int32) s1 c_x1 c_x2 (2 : Int32) (3 : Int32) (0 : Int32) (0 : Int32) (0 : Int32) (0 : Int32) (0 : Int32) (0 : Int32)  S ) (S.1.1) (hw _ (List.mem_of_getElem? (i := 81) rfl)) (hw _ (List.mem_of_getElem? (i := 82) rfl)) (hw _ (List.mem_of_getElem? (i := 84) rfl)) (hw _ (List.mem_of_getElem? (i := 83) rfl)) (hw _ (List.mem_of_getElem? (i := 6) rfl)) (hw _ (List.mem_of_getElem? (i := 85) rfl)) (by decide) at_272 (lenOf pd_6 rfl) rfl rfl (by decide) (W := 0) (Nat.le_of_eq rfl) (by decide) (by decide) (by decide) (q := 275) rfl
              replace w := w [(.int bb)] rfl
              replace w := w.iload (q := 277) (v := z212) at_275 rfl rfl
              rcases w.icmpNe (q := 284) (q' := 280) (xi := bb.toInt) (yi := z212.toInt) at_277 rfl rfl (by decide) (by decide) rfl with ⟨hc277, w⟩ | ⟨hc277, w⟩
              · replace w := w.iconst (q := 285) (z := (0 : Int32)) at_284 (by decide) rfl
                exfalso; omega
              · replace w := w.iconst (q := 281) (z := (1 : Int32)) at_280 (by decide) rfl
                replace w := w.goto (q := 285) at_281 (by decide) (by decide)
                exact w.retZ at_285 (z := 1) (by decide) rfl (by decide) (by decide)
        · replace w := w.iconst (q := 206) (z := (1 : Int32)) at_205 (by decide) rfl
          replace w := w.istore (q := 208) (l' := #[.val (.int x0), .val (.int x1), .val (.int x2), .val (.int x3), .val (.int x4), .val (.int x5), .val (.int (2 : Int32)), .val (.int c_x1), .val (.int c_x2), .val (.int (0 : Int32)), .val (.int (0 : Int32)), .val (.ref a), .val (.int z203), .val (.int i), .val (.int (1 : Int32)), .unset, .unset]) at_206 rfl rfl
          replace w := w.iload (q := 210) (v := c_x1) at_208 rfl rfl
          replace w := w.istore (q := 212) (l' := #[.val (.int x0), .val (.int x1), .val (.int x2), .val (.int x3), .val (.int x4), .val (.int x5), .val (.int (2 : Int32)), .val (.int c_x1), .val (.int c_x2), .val (.int (0 : Int32)), .val (.int (0 : Int32)), .val (.ref a), .val (.int z203), .val (.int i), .val (.int (1 : Int32)), .val (.int c_x1), .unset]) at_210 rfl rfl
          replace w := w.goto (q := 254) at_212 (by decide) (by decide)
          replace w := w.aload (q := 256) (v := (.ref a)) at_254 rfl rfl rfl
          replace w := w.iload (q := 258) (v := i) at_256 rfl rfl
          obtain ⟨_, h215, ⟨rr, bb, rfl, S, hrr⟩, w⟩ := w.callV (a := a) (y := (⟨"com/example/lucky_fork/luckyfork/model/GroupSums", "findByIndex", "(I)I"⟩ : MethodName)) (argsL := [(.int i)]) (rest := []) (own_find_2 l Z a0 hw _ n0 S.z0 a r c p (1 : Int32) (0 : Int32) (0 : Int32) (0 : Int32) (0 : Int32) s1 c_x1 c_x2 (2 : Int32) (3 : Int32) (0 : Int32) (0 : Int32) (0 : Int32) (0 : Int32) (0 : Int32) (0 : Int32) i S ⟨by omega, by omega⟩) (S.1.1) (hw _ (List.mem_of_getElem? (i := 74) rfl)) (hw _ (List.mem_of_getElem? (i := 75) rfl)) (hw _ (List.mem_of_getElem? (i := 77) rfl)) (hw _ (List.mem_of_getElem? (i := 76) rfl)) (hw _ (List.mem_of_getElem? (i := 6) rfl)) (hw _ (List.mem_of_getElem? (i := 78) rfl)) (by decide) at_258 (lenOf pd_0 rfl) rfl rfl (by decide) (W := 0) (Nat.le_of_eq rfl) (by decide) (by decide) (by decide) (q := 261) rfl
          replace w := w [(.int rr)] rfl
          replace w := w.istore (q := 263) (l' := #[.val (.int x0), .val (.int x1), .val (.int x2), .val (.int x3), .val (.int x4), .val (.int x5), .val (.int (2 : Int32)), .val (.int c_x1), .val (.int c_x2), .val (.int (0 : Int32)), .val (.int (0 : Int32)), .val (.ref a), .val (.int z203), .val (.int i), .val (.int (1 : Int32)), .val (.int c_x1), .val (.int rr)]) at_261 rfl rfl
          replace w := w.iload (q := 265) (v := rr) at_263 rfl rfl
          replace w := w.iload (q := 267) (v := (1 : Int32)) at_265 rfl rfl
          rcases w.icmpNe (q := 284) (q' := 270) (xi := rr.toInt) (yi := 1) at_267 rfl rfl (by decide) (by decide) rfl with ⟨hc267, w⟩ | ⟨hc267, w⟩
          · replace w := w.iconst (q := 285) (z := (0 : Int32)) at_284 (by decide) rfl
            exfalso; omega
          · replace w := w.aload (q := 272) (v := (.ref a)) at_270 rfl rfl rfl
            obtain ⟨_, h216, ⟨rfl, S⟩, w⟩ := w.callV (a := a) (y := (⟨"com/example/lucky_fork/luckyfork/model/GroupSums", "countBefore", "()I"⟩ : MethodName)) (argsL := []) (rest := []) (own_cb_2 l Z a0 hw _ n0 S.z0 a r c p (1 : Int32) (0 : Int32) (0 : Int32) bb (0 : Int32) s1 c_x1 c_x2 (2 : Int32) (3 : Int32) (0 : Int32) (0 : Int32) (0 : Int32) (0 : Int32) (0 : Int32) (0 : Int32)  S ) (S.1.1) (hw _ (List.mem_of_getElem? (i := 81) rfl)) (hw _ (List.mem_of_getElem? (i := 82) rfl)) (hw _ (List.mem_of_getElem? (i := 84) rfl)) (hw _ (List.mem_of_getElem? (i := 83) rfl)) (hw _ (List.mem_of_getElem? (i := 6) rfl)) (hw _ (List.mem_of_getElem? (i := 85) rfl)) (by decide) at_272 (lenOf pd_6 rfl) rfl rfl (by decide) (W := 0) (Nat.le_of_eq rfl) (by decide) (by decide) (by decide) (q := 275) rfl
            replace w := w [(.int bb)] rfl
            replace w := w.iload (q := 277) (v := c_x1) at_275 rfl rfl
            rcases w.icmpNe (q := 284) (q' := 280) (xi := bb.toInt) (yi := c_x1.toInt) at_277 rfl rfl (by decide) (by decide) rfl with ⟨hc277, w⟩ | ⟨hc277, w⟩
            · replace w := w.iconst (q := 285) (z := (0 : Int32)) at_284 (by decide) rfl
              exfalso; omega
            · replace w := w.iconst (q := 281) (z := (1 : Int32)) at_280 (by decide) rfl
              replace w := w.goto (q := 285) at_281 (by decide) (by decide)
              exact w.retZ at_285 (z := 1) (by decide) rfl (by decide) (by decide)
      · replace w := w.iconst (q := 187) (z := (0 : Int32)) at_186 (by decide) rfl
        replace w := w.istore (q := 189) (l' := #[.val (.int x0), .val (.int x1), .val (.int x2), .val (.int x3), .val (.int x4), .val (.int x5), .val (.int (2 : Int32)), .val (.int c_x1), .val (.int c_x2), .val (.int (0 : Int32)), .val (.int (0 : Int32)), .val (.ref a), .val (.int z203), .val (.int i), .val (.int (0 : Int32)), .unset, .unset]) at_187 rfl rfl
        replace w := w.iconst (q := 190) (z := (0 : Int32)) at_189 (by decide) rfl
        replace w := w.istore (q := 192) (l' := #[.val (.int x0), .val (.int x1), .val (.int x2), .val (.int x3), .val (.int x4), .val (.int x5), .val (.int (2 : Int32)), .val (.int c_x1), .val (.int c_x2), .val (.int (0 : Int32)), .val (.int (0 : Int32)), .val (.ref a), .val (.int z203), .val (.int i), .val (.int (0 : Int32)), .val (.int (0 : Int32)), .unset]) at_190 rfl rfl
        replace w := w.goto (q := 254) at_192 (by decide) (by decide)
        replace w := w.aload (q := 256) (v := (.ref a)) at_254 rfl rfl rfl
        replace w := w.iload (q := 258) (v := i) at_256 rfl rfl
        obtain ⟨_, h217, ⟨rr, bb, rfl, S, hrr⟩, w⟩ := w.callV (a := a) (y := (⟨"com/example/lucky_fork/luckyfork/model/GroupSums", "findByIndex", "(I)I"⟩ : MethodName)) (argsL := [(.int i)]) (rest := []) (own_find_2 l Z a0 hw _ n0 S.z0 a r c p (1 : Int32) (0 : Int32) (0 : Int32) (0 : Int32) (0 : Int32) s1 c_x1 c_x2 (2 : Int32) (3 : Int32) (0 : Int32) (0 : Int32) (0 : Int32) (0 : Int32) (0 : Int32) (0 : Int32) i S ⟨by omega, by omega⟩) (S.1.1) (hw _ (List.mem_of_getElem? (i := 74) rfl)) (hw _ (List.mem_of_getElem? (i := 75) rfl)) (hw _ (List.mem_of_getElem? (i := 77) rfl)) (hw _ (List.mem_of_getElem? (i := 76) rfl)) (hw _ (List.mem_of_getElem? (i := 6) rfl)) (hw _ (List.mem_of_getElem? (i := 78) rfl)) (by decide) at_258 (lenOf pd_0 rfl) rfl rfl (by decide) (W := 0) (Nat.le_of_eq rfl) (by decide) (by decide) (by decide) (q := 261) rfl
        replace w := w [(.int rr)] rfl
        replace w := w.istore (q := 263) (l' := #[.val (.int x0), .val (.int x1), .val (.int x2), .val (.int x3), .val (.int x4), .val (.int x5), .val (.int (2 : Int32)), .val (.int c_x1), .val (.int c_x2), .val (.int (0 : Int32)), .val (.int (0 : Int32)), .val (.ref a), .val (.int z203), .val (.int i), .val (.int (0 : Int32)), .val (.int (0 : Int32)), .val (.int rr)]) at_261 rfl rfl
        replace w := w.iload (q := 265) (v := rr) at_263 rfl rfl
        replace w := w.iload (q := 267) (v := (0 : Int32)) at_265 rfl rfl
        rcases w.icmpNe (q := 284) (q' := 270) (xi := rr.toInt) (yi := 0) at_267 rfl rfl (by decide) (by decide) rfl with ⟨hc267, w⟩ | ⟨hc267, w⟩
        · replace w := w.iconst (q := 285) (z := (0 : Int32)) at_284 (by decide) rfl
          exfalso; omega
        · replace w := w.aload (q := 272) (v := (.ref a)) at_270 rfl rfl rfl
          obtain ⟨_, h218, ⟨rfl, S⟩, w⟩ := w.callV (a := a) (y := (⟨"com/example/lucky_fork/luckyfork/model/GroupSums", "countBefore", "()I"⟩ : MethodName)) (argsL := []) (rest := []) (own_cb_2 l Z a0 hw _ n0 S.z0 a r c p (1 : Int32) (0 : Int32) (0 : Int32) bb (0 : Int32) s1 c_x1 c_x2 (2 : Int32) (3 : Int32) (0 : Int32) (0 : Int32) (0 : Int32) (0 : Int32) (0 : Int32) (0 : Int32)  S ) (S.1.1) (hw _ (List.mem_of_getElem? (i := 81) rfl)) (hw _ (List.mem_of_getElem? (i := 82) rfl)) (hw _ (List.mem_of_getElem? (i := 84) rfl)) (hw _ (List.mem_of_getElem? (i := 83) rfl)) (hw _ (List.mem_of_getElem? (i := 6) rfl)) (hw _ (List.mem_of_getElem? (i := 85) rfl)) (by decide) at_272 (lenOf pd_6 rfl) rfl rfl (by decide) (W := 0) (Nat.le_of_eq rfl) (by decide) (by decide) (by decide) (q := 275) rfl
          replace w := w [(.int bb)] rfl
          replace w := w.iload (q := 277) (v := (0 : Int32)) at_275 rfl rfl
          rcases w.icmpNe (q := 284) (q' := 280) (xi := bb.toInt) (yi := 0) at_277 rfl rfl (by decide) (by decide) rfl with ⟨hc277, w⟩ | ⟨hc277, w⟩
          · replace w := w.iconst (q := 285) (z := (0 : Int32)) at_284 (by decide) rfl
            exfalso; omega
          · replace w := w.iconst (q := 281) (z := (1 : Int32)) at_280 (by decide) rfl
            replace w := w.goto (q := 285) at_281 (by decide) (by decide)
            exact w.retZ at_285 (z := 1) (by decide) rfl (by decide) (by decide)
    · replace w := w.iconst (q := 168) (z := (1 : Int32)) at_167 (by decide) rfl
      exact w.retZ at_168 (z := 1) (by decide) rfl (by decide) (by decide)
  · replace w := w.istore (q := 7) (l' := #[.val (.int x0), .val (.int x1), .val (.int x2), .val (.int x3), .val (.int x4), .val (.int x5), .val (.int (3 : Int32)), .unset, .unset, .unset, .unset, .unset, .unset, .unset, .unset, .unset, .unset]) at_5 rfl rfl
    replace w := w.iloadN (q := 8) (v := x1) at_7 rfl rfl
    obtain ⟨_, _, ⟨eh, c_x1, rfl, bc_x1, dc_x1⟩, w⟩ := w.callS (y := (⟨"com/example/lucky_fork/luckyfork/model/GroupSumsFindByIndexPinLaw", "cnt", "(I)I"⟩ : MethodName)) (argsL := [(.int x1)]) (rest := []) (own_cnt l Z a0 hw h0 n0 Z0 x1) (hw _ (List.mem_of_getElem? (i := 0) rfl)) (hw _ (List.mem_of_getElem? (i := 1) rfl)) (hw _ (List.mem_of_getElem? (i := 2) rfl)) (hw _ (List.mem_of_getElem? (i := 3) rfl)) (by decide) at_8 (lenOf pd_0 rfl) rfl rfl (by decide) (W := 0) (Nat.le_of_eq rfl) (by decide) (by decide) (by decide) (q := 11) rfl
    rw [eh] at w
    replace w := w [(.int c_x1)] rfl
    replace w := w.istore (q := 13) (l' := #[.val (.int x0), .val (.int x1), .val (.int x2), .val (.int x3), .val (.int x4), .val (.int x5), .val (.int (3 : Int32)), .val (.int c_x1), .unset, .unset, .unset, .unset, .unset, .unset, .unset, .unset, .unset]) at_11 rfl rfl
    replace w := w.iload (q := 15) (v := (3 : Int32)) at_13 rfl rfl
    replace w := w.iconst (q := 16) (z := (1 : Int32)) at_15 (by decide) rfl
    obtain ⟨-, w⟩ := (w.icmpLe (q := 26) (q' := 19) (xi := 3) (yi := 1) at_16 rfl rfl (by decide) (by decide) rfl).resolve_left (fun g => by have hc16 := g.1; revert hc16; decide)
    replace w := w.iloadN (q := 20) (v := x2) at_19 rfl rfl
    obtain ⟨_, _, ⟨eh, c_x2, rfl, bc_x2, dc_x2⟩, w⟩ := w.callS (y := (⟨"com/example/lucky_fork/luckyfork/model/GroupSumsFindByIndexPinLaw", "cnt", "(I)I"⟩ : MethodName)) (argsL := [(.int x2)]) (rest := []) (own_cnt l Z a0 hw h0 n0 Z0 x2) (hw _ (List.mem_of_getElem? (i := 0) rfl)) (hw _ (List.mem_of_getElem? (i := 1) rfl)) (hw _ (List.mem_of_getElem? (i := 2) rfl)) (hw _ (List.mem_of_getElem? (i := 3) rfl)) (by decide) at_20 (lenOf pd_0 rfl) rfl rfl (by decide) (W := 0) (Nat.le_of_eq rfl) (by decide) (by decide) (by decide) (q := 23) rfl
    rw [eh] at w
    replace w := w [(.int c_x2)] rfl
    replace w := w.goto (q := 27) at_23 (by decide) (by decide)
    replace w := w.istore (q := 29) (l' := #[.val (.int x0), .val (.int x1), .val (.int x2), .val (.int x3), .val (.int x4), .val (.int x5), .val (.int (3 : Int32)), .val (.int c_x1), .val (.int c_x2), .unset, .unset, .unset, .unset, .unset, .unset, .unset, .unset]) at_27 rfl rfl
    replace w := w.iload (q := 31) (v := (3 : Int32)) at_29 rfl rfl
    replace w := w.iconst (q := 32) (z := (2 : Int32)) at_31 (by decide) rfl
    obtain ⟨-, w⟩ := (w.icmpLe (q := 42) (q' := 35) (xi := 3) (yi := 2) at_32 rfl rfl (by decide) (by decide) rfl).resolve_left (fun g => by have hc32 := g.1; revert hc32; decide)
    replace w := w.iloadN (q := 36) (v := x3) at_35 rfl rfl
    obtain ⟨_, _, ⟨eh, c_x3, rfl, bc_x3, dc_x3⟩, w⟩ := w.callS (y := (⟨"com/example/lucky_fork/luckyfork/model/GroupSumsFindByIndexPinLaw", "cnt", "(I)I"⟩ : MethodName)) (argsL := [(.int x3)]) (rest := []) (own_cnt l Z a0 hw h0 n0 Z0 x3) (hw _ (List.mem_of_getElem? (i := 0) rfl)) (hw _ (List.mem_of_getElem? (i := 1) rfl)) (hw _ (List.mem_of_getElem? (i := 2) rfl)) (hw _ (List.mem_of_getElem? (i := 3) rfl)) (by decide) at_36 (lenOf pd_0 rfl) rfl rfl (by decide) (W := 0) (Nat.le_of_eq rfl) (by decide) (by decide) (by decide) (q := 39) rfl
    rw [eh] at w
    replace w := w [(.int c_x3)] rfl
    replace w := w.goto (q := 43) at_39 (by decide) (by decide)
    replace w := w.istore (q := 45) (l' := #[.val (.int x0), .val (.int x1), .val (.int x2), .val (.int x3), .val (.int x4), .val (.int x5), .val (.int (3 : Int32)), .val (.int c_x1), .val (.int c_x2), .val (.int c_x3), .unset, .unset, .unset, .unset, .unset, .unset, .unset]) at_43 rfl rfl
    replace w := w.iload (q := 47) (v := (3 : Int32)) at_45 rfl rfl
    replace w := w.iconst (q := 48) (z := (3 : Int32)) at_47 (by decide) rfl
    obtain ⟨-, w⟩ := (w.icmpLe (q := 59) (q' := 51) (xi := 3) (yi := 3) at_48 rfl rfl (by decide) (by decide) rfl).resolve_right (fun g => by have hc48 := g.1; revert hc48; decide)
    replace w := w.iconst (q := 60) (z := (0 : Int32)) at_59 (by decide) rfl
    replace w := w.istore (q := 62) (l' := #[.val (.int x0), .val (.int x1), .val (.int x2), .val (.int x3), .val (.int x4), .val (.int x5), .val (.int (3 : Int32)), .val (.int c_x1), .val (.int c_x2), .val (.int c_x3), .val (.int (0 : Int32)), .unset, .unset, .unset, .unset, .unset, .unset]) at_60 rfl rfl
    obtain ⟨h1, a, ea, E, A, D, w⟩ := w.newO (q := 65) (hw _ (List.mem_of_getElem? (i := 4) rfl)) (hw _ (List.mem_of_getElem? (i := 5) rfl)) (hw _ (List.mem_of_getElem? (i := 6) rfl)) at_62 (by decide) (by decide) rfl
    have Fleaves : Fld Z h1 a "com/example/lucky_fork/luckyfork/model/GroupSums" "leaves" "I" (.int (0 : Int32)) := D (Or.inl (hw _ (List.mem_of_getElem? (i := 14) rfl))) (ty := .int) (by decide)
    have Fdepth : Fld Z h1 a "com/example/lucky_fork/luckyfork/model/GroupSums" "depth" "I" (.int (0 : Int32)) := D (Or.inl (hw _ (List.mem_of_getElem? (i := 45) rfl))) (ty := .int) (by decide)
    have Frates : Fld Z h1 a "com/example/lucky_fork/luckyfork/model/GroupSums" "rates" "[D" .null := D (Or.inl (hw _ (List.mem_of_getElem? (i := 17) rfl))) (ty := (.array .double)) (by decide)
    have Fcounts : Fld Z h1 a "com/example/lucky_fork/luckyfork/model/GroupSums" "counts" "[I" .null := D (Or.inl (hw _ (List.mem_of_getElem? (i := 20) rfl))) (ty := (.array .int)) (by decide)
    have Fpending : Fld Z h1 a "com/example/lucky_fork/luckyfork/model/GroupSums" "pending" "[I" .null := D (Or.inl (hw _ (List.mem_of_getElem? (i := 22) rfl))) (ty := (.array .int)) (by decide)
    have FpendingCount : Fld Z h1 a "com/example/lucky_fork/luckyfork/model/GroupSums" "pendingCount" "I" (.int (0 : Int32)) := D (Or.inl (hw _ (List.mem_of_getElem? (i := 36) rfl))) (ty := .int) (by decide)
    have Frebuild : Fld Z h1 a "com/example/lucky_fork/luckyfork/model/GroupSums" "rebuild" "Z" (.int (0 : Int32)) := D (Or.inl (hw _ (List.mem_of_getElem? (i := 38) rfl))) (ty := .boolean) (by decide)
    have FcountBefore : Fld Z h1 a "com/example/lucky_fork/luckyfork/model/GroupSums" "countBefore" "I" (.int (0 : Int32)) := D (Or.inl (hw _ (List.mem_of_getElem? (i := 80) rfl))) (ty := .int) (by decide)
    have ge : n0 ≤ a := by rw [ea]; exact Z0
    have S0 : Gs Z h1 a (.int 0) (.int 0) .null .null .null (.int 0) (.int 0) (.int 0) := ⟨A, Fleaves, Fdepth, Frates, Fcounts, Fpending, FpendingCount, Frebuild, FcountBefore⟩
    replace w := w.dup (q := 66) at_65 rfl rfl
    obtain ⟨_, h2, ⟨rfl, r, c, p, S⟩, w⟩ := w.callI (a := a) (y := (⟨"com/example/lucky_fork/luckyfork/model/GroupSums", "<init>", "()V"⟩ : MethodName)) (argsL := []) (rest := [(.ref a)]) (own_init l Z a0 hw h1 n0 (Nat.le_of_lt (Nat.lt_of_le_of_lt ge S0.lt)) a ge S0) rfl (hw _ (List.mem_of_getElem? (i := 7) rfl)) (hw _ (List.mem_of_getElem? (i := 8) rfl)) (hw _ (List.mem_of_getElem? (i := 6) rfl)) (hw _ (List.mem_of_getElem? (i := 9) rfl)) (by decide) at_66 (lenOf pd_4 rfl) rfl rfl (by decide) (W := 1) (Nat.le_of_eq rfl) (by decide) (by decide) (by decide) (q := 69) rfl
    replace w := w [(.ref a)] rfl
    replace w := w.astore (q := 71) (l' := #[.val (.int x0), .val (.int x1), .val (.int x2), .val (.int x3), .val (.int x4), .val (.int x5), .val (.int (3 : Int32)), .val (.int c_x1), .val (.int c_x2), .val (.int c_x3), .val (.int (0 : Int32)), .val (.ref a), .unset, .unset, .unset, .unset, .unset]) at_69 rfl rfl rfl
    replace w := w.aload (q := 73) (v := (.ref a)) at_71 rfl rfl rfl
    replace w := w.iload (q := 75) (v := (3 : Int32)) at_73 rfl rfl
    obtain ⟨_, h219, ⟨rfl, r, c, S⟩, w⟩ := w.callV (a := a) (y := (⟨"com/example/lucky_fork/luckyfork/model/GroupSums", "clear", "(I)V"⟩ : MethodName)) (argsL := [(.int (3 : Int32))]) (rest := []) (own_clear_3 l Z a0 hw _ n0 S.z0 a r c p S) (S.1.1) (hw _ (List.mem_of_getElem? (i := 23) rfl)) (hw _ (List.mem_of_getElem? (i := 24) rfl)) (hw _ (List.mem_of_getElem? (i := 26) rfl)) (hw _ (List.mem_of_getElem? (i := 25) rfl)) (hw _ (List.mem_of_getElem? (i := 6) rfl)) (hw _ (List.mem_of_getElem? (i := 27) rfl)) (by decide) at_75 (lenOf pd_3 rfl) rfl rfl (by decide) (W := 0) (Nat.le_of_eq rfl) (by decide) (by decide) (by decide) (q := 78) rfl
    replace w := w [] rfl
    replace w := w.aload (q := 80) (v := (.ref a)) at_78 rfl rfl rfl
    replace w := w.iconst (q := 81) (z := (0 : Int32)) at_80 (by decide) rfl
    replace w := w.dconst0 (q := 82) (z := 0) at_81 rfl rfl
    replace w := w.iload (q := 84) (v := c_x1) at_82 rfl rfl
    obtain ⟨_, h220, ⟨rfl, S⟩, w⟩ := w.callV (a := a) (y := (⟨"com/example/lucky_fork/luckyfork/model/GroupSums", "set", "(IDI)V"⟩ : MethodName)) (argsL := [(.int (0 : Int32)), (.double (0 : UInt64)), (.int c_x1)]) (rest := []) (own_set_4_0 l Z a0 hw _ n0 S.z0 a r c p (0 : Int32) (0 : Int32) (0 : Int32) (0 : Int32) (0 : Int32) (0 : Int32) (0 : Int32) (0 : Int32) (0 : Int32) (0 : Int32) (0 : Int32) (0 : Int32) (0 : Int32) (0 : Int32) (0 : Int32) (0 : Int32) (0 : Int32) c_x1 S) (S.1.1) (hw _ (List.mem_of_getElem? (i := 39) rfl)) (hw _ (List.mem_of_getElem? (i := 40) rfl)) (hw _ (List.mem_of_getElem? (i := 42) rfl)) (hw _ (List.mem_of_getElem? (i := 41) rfl)) (hw _ (List.mem_of_getElem? (i := 6) rfl)) (hw _ (List.mem_of_getElem? (i := 43) rfl)) (by decide) at_84 (lenOf pd_5 rfl) rfl rfl (by decide) (W := 0) (Nat.le_of_eq rfl) (by decide) (by decide) (by decide) (q := 87) rfl
    replace w := w [] rfl
    replace w := w.iload (q := 89) (v := (3 : Int32)) at_87 rfl rfl
    replace w := w.iconst (q := 90) (z := (1 : Int32)) at_89 (by decide) rfl
    obtain ⟨-, w⟩ := (w.icmpLe (q := 102) (q' := 93) (xi := 3) (yi := 1) at_90 rfl rfl (by decide) (by decide) rfl).resolve_left (fun g => by have hc90 := g.1; revert hc90; decide)
    replace w := w.aload (q := 95) (v := (.ref a)) at_93 rfl rfl rfl
    replace w := w.iconst (q := 96) (z := (1 : Int32)) at_95 (by decide) rfl
    replace w := w.dconst0 (q := 97) (z := 0) at_96 rfl rfl
    replace w := w.iload (q := 99) (v := c_x2) at_97 rfl rfl
    obtain ⟨_, h221, ⟨rfl, S⟩, w⟩ := w.callV (a := a) (y := (⟨"com/example/lucky_fork/luckyfork/model/GroupSums", "set", "(IDI)V"⟩ : MethodName)) (argsL := [(.int (1 : Int32)), (.double (0 : UInt64)), (.int c_x2)]) (rest := []) (own_set_4_1 l Z a0 hw _ n0 S.z0 a r c p (0 : Int32) (0 : Int32) (0 : Int32) (0 : Int32) (0 : Int32) c_x1 (0 : Int32) (0 : Int32) (0 : Int32) (4 : Int32) (0 : Int32) (0 : Int32) (0 : Int32) (0 : Int32) (0 : Int32) (0 : Int32) (0 : Int32) c_x2 S) (S.1.1) (hw _ (List.mem_of_getElem? (i := 39) rfl)) (hw _ (List.mem_of_getElem? (i := 40) rfl)) (hw _ (List.mem_of_getElem? (i := 42) rfl)) (hw _ (List.mem_of_getElem? (i := 41) rfl)) (hw _ (List.mem_of_getElem? (i := 6) rfl)) (hw _ (List.mem_of_getElem? (i := 43) rfl)) (by decide) at_99 (lenOf pd_5 rfl) rfl rfl (by decide) (W := 0) (Nat.le_of_eq rfl) (by decide) (by decide) (by decide) (q := 102) rfl
    replace w := w [] rfl
    replace w := w.iload (q := 104) (v := (3 : Int32)) at_102 rfl rfl
    replace w := w.iconst (q := 105) (z := (2 : Int32)) at_104 (by decide) rfl
    obtain ⟨-, w⟩ := (w.icmpLe (q := 117) (q' := 108) (xi := 3) (yi := 2) at_105 rfl rfl (by decide) (by decide) rfl).resolve_left (fun g => by have hc105 := g.1; revert hc105; decide)
    replace w := w.aload (q := 110) (v := (.ref a)) at_108 rfl rfl rfl
    replace w := w.iconst (q := 111) (z := (2 : Int32)) at_110 (by decide) rfl
    replace w := w.dconst0 (q := 112) (z := 0) at_111 rfl rfl
    replace w := w.iload (q := 114) (v := c_x3) at_112 rfl rfl
    obtain ⟨_, h222, ⟨rfl, S⟩, w⟩ := w.callV (a := a) (y := (⟨"com/example/lucky_fork/luckyfork/model/GroupSums", "set", "(IDI)V"⟩ : MethodName)) (argsL := [(.int (2 : Int32)), (.double (0 : UInt64)), (.int c_x3)]) (rest := []) (own_set_4_2 l Z a0 hw _ n0 S.z0 a r c p (0 : Int32) (0 : Int32) (0 : Int32) (0 : Int32) (0 : Int32) c_x1 c_x2 (0 : Int32) (0 : Int32) (4 : Int32) (5 : Int32) (0 : Int32) (0 : Int32) (0 : Int32) (0 : Int32) (0 : Int32) (0 : Int32) c_x3 S) (S.1.1) (hw _ (List.mem_of_getElem? (i := 39) rfl)) (hw _ (List.mem_of_getElem? (i := 40) rfl)) (hw _ (List.mem_of_getElem? (i := 42) rfl)) (hw _ (List.mem_of_getElem? (i := 41) rfl)) (hw _ (List.mem_of_getElem? (i := 6) rfl)) (hw _ (List.mem_of_getElem? (i := 43) rfl)) (by decide) at_114 (lenOf pd_5 rfl) rfl rfl (by decide) (W := 0) (Nat.le_of_eq rfl) (by decide) (by decide) (by decide) (q := 117) rfl
    replace w := w [] rfl
    replace w := w.iload (q := 119) (v := (3 : Int32)) at_117 rfl rfl
    replace w := w.iconst (q := 120) (z := (3 : Int32)) at_119 (by decide) rfl
    obtain ⟨-, w⟩ := (w.icmpLe (q := 132) (q' := 123) (xi := 3) (yi := 3) at_120 rfl rfl (by decide) (by decide) rfl).resolve_right (fun g => by have hc120 := g.1; revert hc120; decide)
    replace w := w.aload (q := 134) (v := (.ref a)) at_132 rfl rfl rfl
    obtain ⟨_, h223, ⟨rfl, S⟩, w⟩ := w.callV (a := a) (y := (⟨"com/example/lucky_fork/luckyfork/model/GroupSums", "settle", "()V"⟩ : MethodName)) (argsL := []) (rest := []) (own_settle_4 l Z a0 hw _ n0 S.z0 a r c p (0 : Int32) (0 : Int32) (0 : Int32) (0 : Int32) (0 : Int32) c_x1 c_x2 c_x3 (0 : Int32) (4 : Int32) (5 : Int32) (0 : Int32) (0 : Int32) (0 : Int32) (0 : Int32) (0 : Int32) (0 : Int32)  S ) (S.1.1) (hw _ (List.mem_of_getElem? (i := 46) rfl)) (hw _ (List.mem_of_getElem? (i := 47) rfl)) (hw _ (List.mem_of_getElem? (i := 49) rfl)) (hw _ (List.mem_of_getElem? (i := 48) rfl)) (hw _ (List.mem_of_getElem? (i := 6) rfl)) (hw _ (List.mem_of_getElem? (i := 50) rfl)) (by decide) at_134 (lenOf pd_4 rfl) rfl rfl (by decide) (W := 0) (Nat.le_of_eq rfl) (by decide) (by decide) (by decide) (q := 137) rfl
    replace w := w [] rfl
    have e00 : (0 : Int32).toInt = 0 := rfl
    obtain ⟨s2, hs2⟩ : ∃ z : Int32, (c_x1 + c_x2) = z := ⟨_, rfl⟩
    rw [hs2] at S
    have fs2 := own_add hs2 (by omega) (by omega) (by omega) (by omega)
    obtain ⟨s3, hs3⟩ : ∃ z : Int32, (c_x3 + (0 : Int32)) = z := ⟨_, rfl⟩
    rw [hs3] at S
    have fs3 := own_add hs3 (by omega) (by omega) (by omega) (by omega)
    obtain ⟨s1, hs1⟩ : ∃ z : Int32, (s2 + s3) = z := ⟨_, rfl⟩
    rw [hs1] at S
    have fs1 := own_add hs1 (by omega) (by omega) (by omega) (by omega)
    replace S : Gt Z h223 n0 a r c p (4 : Int32) (2 : Int32) (0 : Int32) (0 : Int32) (0 : Int32) [(.double (0 : UInt64)), (.double (0 : UInt64)), (.double (0 : UInt64)), (.double (0 : UInt64)), (.double (0 : UInt64)), (.double (0 : UInt64)), (.double (0 : UInt64)), (.double (0 : UInt64))] [(.int (0 : Int32)), (.int s1), (.int s2), (.int s3), (.int c_x1), (.int c_x2), (.int c_x3), (.int (0 : Int32))] [(.int (4 : Int32)), (.int (5 : Int32)), (.int (0 : Int32)), (.int (0 : Int32)), (.int (0 : Int32)), (.int (0 : Int32)), (.int (0 : Int32)), (.int (0 : Int32))] := S
    replace w := w.iload (q := 139) (v := c_x1) at_137 rfl rfl
    replace w := w.iload (q := 141) (v := c_x2) at_139 rfl rfl
    obtain ⟨z224, hz224⟩ : ∃ z : Int32, c_x1 + c_x2 = z := ⟨_, rfl⟩
    replace w := w.iadd (q := 142) at_141 hz224 rfl
    have fz224 := own_add hz224 (by omega) (by omega) (by omega) (by omega)
    replace w := w.iload (q := 144) (v := c_x3) at_142 rfl rfl
    obtain ⟨z225, hz225⟩ : ∃ z : Int32, z224 + c_x3 = z := ⟨_, rfl⟩
    replace w := w.iadd (q := 145) at_144 hz225 rfl
    have fz225 := own_add hz225 (by omega) (by omega) (by omega) (by omega)
    replace w := w.iload (q := 147) (v := (0 : Int32)) at_145 rfl rfl
    obtain ⟨z226, hz226⟩ : ∃ z : Int32, z225 + (0 : Int32) = z := ⟨_, rfl⟩
    replace w := w.iadd (q := 148) at_147 hz226 rfl
    have fz226 := own_add hz226 (by omega) (by omega) (by omega) (by omega)
    replace w := w.istore (q := 150) (l' := #[.val (.int x0), .val (.int x1), .val (.int x2), .val (.int x3), .val (.int x4), .val (.int x5), .val (.int (3 : Int32)), .val (.int c_x1), .val (.int c_x2), .val (.int c_x3), .val (.int (0 : Int32)), .val (.ref a), .val (.int z226), .unset, .unset, .unset, .unset]) at_148 rfl rfl
    replace w := w.aload (q := 152) (v := (.ref a)) at_150 rfl rfl rfl
    obtain ⟨_, h227, ⟨rfl, S⟩, w⟩ := w.callV (a := a) (y := (⟨"com/example/lucky_fork/luckyfork/model/GroupSums", "size", "()I"⟩ : MethodName)) (argsL := []) (rest := []) (own_size_4 l Z a0 hw _ n0 S.z0 a r c p (2 : Int32) (0 : Int32) (0 : Int32) (0 : Int32) (0 : Int32) s1 s2 s3 c_x1 c_x2 c_x3 (0 : Int32) (4 : Int32) (5 : Int32) (0 : Int32) (0 : Int32) (0 : Int32) (0 : Int32) (0 : Int32) (0 : Int32)  S ) (S.1.1) (hw _ (List.mem_of_getElem? (i := 51) rfl)) (hw _ (List.mem_of_getElem? (i := 52) rfl)) (hw _ (List.mem_of_getElem? (i := 54) rfl)) (hw _ (List.mem_of_getElem? (i := 53) rfl)) (hw _ (List.mem_of_getElem? (i := 6) rfl)) (hw _ (List.mem_of_getElem? (i := 55) rfl)) (by decide) at_152 (lenOf pd_6 rfl) rfl rfl (by decide) (W := 0) (Nat.le_of_eq rfl) (by decide) (by decide) (by decide) (q := 155) rfl
    replace w := w [(.int s1)] rfl
    replace w := w.iload (q := 157) (v := z226) at_155 rfl rfl
    obtain ⟨hc157, w⟩ := (w.icmpEq (q := 162) (q' := 160) (xi := s1.toInt) (yi := z226.toInt) at_157 rfl rfl (by decide) (by decide) rfl).resolve_right (fun g => by have hc157 := g.1; omega)
    replace w := w.iload (q := 164) (v := z226) at_162 rfl rfl
    rcases w.ifNe (q := 169) (q' := 167) (xi := z226.toInt) at_164 rfl (by decide) (by decide) rfl with ⟨hc164, w⟩ | ⟨hc164, w⟩
    · replace w := w.iload (q := 171) (v := x5) at_169 rfl rfl
      replace w := w.ldcI (q := 173) (z := (2147483647 : Int32)) (hw _ (List.mem_of_getElem? (i := 73) rfl)) at_171 rfl
      obtain ⟨zk, hzk⟩ : ∃ z : Int32, x5 &&& (2147483647 : Int32) = z := ⟨_, rfl⟩
      replace w := w.iand (q := 174) at_173 hzk rfl
      replace w := w.iload (q := 176) (v := z226) at_174 rfl rfl
      obtain ⟨i, hi⟩ : ∃ z : Int32, zk % z226 = z := ⟨_, rfl⟩
      replace w := w.irem (q := 177) at_176 (own_nz hc164) hi rfl
      have ib := own_rem hi (by rw [← hzk]; exact own_mask _) (by omega)
      replace w := w.istore (q := 179) (l' := #[.val (.int x0), .val (.int x1), .val (.int x2), .val (.int x3), .val (.int x4), .val (.int x5), .val (.int (3 : Int32)), .val (.int c_x1), .val (.int c_x2), .val (.int c_x3), .val (.int (0 : Int32)), .val (.ref a), .val (.int z226), .val (.int i), .unset, .unset, .unset]) at_177 rfl rfl
      replace w := w.iload (q := 181) (v := i) at_179 rfl rfl
      replace w := w.iload (q := 183) (v := c_x1) at_181 rfl rfl
      rcases w.icmpGe (q := 195) (q' := 186) (xi := i.toInt) (yi := c_x1.toInt) at_183 rfl rfl (by decide) (by decide) rfl with ⟨hc183, w⟩ | ⟨hc183, w⟩
      · replace w := w.iload (q := 197) (v := i) at_195 rfl rfl
        replace w := w.iload (q := 199) (v := c_x1) at_197 rfl rfl
        replace w := w.iload (q := 201) (v := c_x2) at_199 rfl rfl
        obtain ⟨z228, hz228⟩ : ∃ z : Int32, c_x1 + c_x2 = z := ⟨_, rfl⟩
        replace w := w.iadd (q := 202) at_201 hz228 rfl
        have fz228 := own_add hz228 (by omega) (by omega) (by omega) (by omega)
        rcases w.icmpGe (q := 215) (q' := 205) (xi := i.toInt) (yi := z228.toInt) at_202 rfl rfl (by decide) (by decide) rfl with ⟨hc202, w⟩ | ⟨hc202, w⟩
        · replace w := w.iload (q := 217) (v := i) at_215 rfl rfl
          replace w := w.iload (q := 219) (v := c_x1) at_217 rfl rfl
          replace w := w.iload (q := 221) (v := c_x2) at_219 rfl rfl
          obtain ⟨z229, hz229⟩ : ∃ z : Int32, c_x1 + c_x2 = z := ⟨_, rfl⟩
          replace w := w.iadd (q := 222) at_221 hz229 rfl
          have fz229 := own_add hz229 (by omega) (by omega) (by omega) (by omega)
          replace w := w.iload (q := 224) (v := c_x3) at_222 rfl rfl
          obtain ⟨z230, hz230⟩ : ∃ z : Int32, z229 + c_x3 = z := ⟨_, rfl⟩
          replace w := w.iadd (q := 225) at_224 hz230 rfl
          have fz230 := own_add hz230 (by omega) (by omega) (by omega) (by omega)
          rcases w.icmpGe (q := 241) (q' := 228) (xi := i.toInt) (yi := z230.toInt) at_225 rfl rfl (by decide) (by decide) rfl with ⟨hc225, w⟩ | ⟨hc225, w⟩
          · replace w := w.iconst (q := 242) (z := (3 : Int32)) at_241 (by decide) rfl
            replace w := w.istore (q := 244) (l' := #[.val (.int x0), .val (.int x1), .val (.int x2), .val (.int x3), .val (.int x4), .val (.int x5), .val (.int (3 : Int32)), .val (.int c_x1), .val (.int c_x2), .val (.int c_x3), .val (.int (0 : Int32)), .val (.ref a), .val (.int z226), .val (.int i), .val (.int (3 : Int32)), .unset, .unset]) at_242 rfl rfl
            replace w := w.iload (q := 246) (v := c_x1) at_244 rfl rfl
            replace w := w.iload (q := 248) (v := c_x2) at_246 rfl rfl
            obtain ⟨z231, hz231⟩ : ∃ z : Int32, c_x1 + c_x2 = z := ⟨_, rfl⟩
            replace w := w.iadd (q := 249) at_248 hz231 rfl
            have fz231 := own_add hz231 (by omega) (by omega) (by omega) (by omega)
            replace w := w.iload (q := 251) (v := c_x3) at_249 rfl rfl
            obtain ⟨z232, hz232⟩ : ∃ z : Int32, z231 + c_x3 = z := ⟨_, rfl⟩
            replace w := w.iadd (q := 252) at_251 hz232 rfl
            have fz232 := own_add hz232 (by omega) (by omega) (by omega) (by omega)
            replace w := w.istore (q := 254) (l' := #[.val (.int x0), .val (.int x1), .val (.int x2), .val (.int x3), .val (.int x4), .val (.int x5), .val (.int (3 : Int32)), .val (.int c_x1), .val (.int c_x2), .val (.int c_x3), .val (.int (0 : Int32)), .val (.ref a), .val (.int z226), .val (.int i), .val (.int (3 : Int32)), .val (.int z232), .unset]) at_252 rfl rfl
            replace w := w.aload (q := 256) (v := (.ref a)) at_254 rfl rfl rfl
            replace w := w.iload (q := 258) (v := i) at_256 rfl rfl
            obtain ⟨_, h233, ⟨rr, bb, rfl, S, hrr⟩, w⟩ := w.callV (a := a) (y := (⟨"com/example/lucky_fork/luckyfork/model/GroupSums", "findByIndex", "(I)I"⟩ : MethodName)) (argsL := [(.int i)]) (rest := []) (own_find_4 l Z a0 hw _ n0 S.z0 a r c p (2 : Int32) (0 : Int32) (0 : Int32) (0 : Int32) (0 : Int32) s1 s2 s3 c_x1 c_x2 c_x3 (0 : Int32) (4 : Int32) (5 : Int32) (0 : Int32) (0 : Int32) (0 : Int32) (0 : Int32) (0 : Int32) (0 : Int32) i S ⟨by omega, by omega⟩ ⟨by omega, by omega⟩ ⟨by omega, by omega⟩) (S.1.1) (hw _ (List.mem_of_getElem? (i := 74) rfl)) (hw _ (List.mem_of_getElem? (i := 75) rfl)) (hw _ (List.mem_of_getElem? (i := 77) rfl)) (hw _ (List.mem_of_getElem? (i := 76) rfl)) (hw _ (List.mem_of_getElem? (i := 6) rfl)) (hw _ (List.mem_of_getElem? (i := 78) rfl)) (by decide) at_258 (lenOf pd_0 rfl) rfl rfl (by decide) (W := 0) (Nat.le_of_eq rfl) (by decide) (by decide) (by decide) (q := 261) rfl
            replace w := w [(.int rr)] rfl
            replace w := w.istore (q := 263) (l' := #[.val (.int x0), .val (.int x1), .val (.int x2), .val (.int x3), .val (.int x4), .val (.int x5), .val (.int (3 : Int32)), .val (.int c_x1), .val (.int c_x2), .val (.int c_x3), .val (.int (0 : Int32)), .val (.ref a), .val (.int z226), .val (.int i), .val (.int (3 : Int32)), .val (.int z232), .val (.int rr)]) at_261 rfl rfl
            replace w := w.iload (q := 265) (v := rr) at_263 rfl rfl
            replace w := w.iload (q := 267) (v := (3 : Int32)) at_265 rfl rfl
            rcases w.icmpNe (q := 284) (q' := 270) (xi := rr.toInt) (yi := 3) at_267 rfl rfl (by decide) (by decide) rfl with ⟨hc267, w⟩ | ⟨hc267, w⟩
            · replace w := w.iconst (q := 285) (z := (0 : Int32)) at_284 (by decide) rfl
              exfalso; omega
            · replace w := w.aload (q := 272) (v := (.ref a)) at_270 rfl rfl rfl
              obtain ⟨_, h234, ⟨rfl, S⟩, w⟩ := w.callV (a := a) (y := (⟨"com/example/lucky_fork/luckyfork/model/GroupSums", "countBefore", "()I"⟩ : MethodName)) (argsL := []) (rest := []) (own_cb_4 l Z a0 hw _ n0 S.z0 a r c p (2 : Int32) (0 : Int32) (0 : Int32) bb (0 : Int32) s1 s2 s3 c_x1 c_x2 c_x3 (0 : Int32) (4 : Int32) (5 : Int32) (0 : Int32) (0 : Int32) (0 : Int32) (0 : Int32) (0 : Int32) (0 : Int32)  S ) (S.1.1) (hw _ (List.mem_of_getElem? (i := 81) rfl)) (hw _ (List.mem_of_getElem? (i := 82) rfl)) (hw _ (List.mem_of_getElem? (i := 84) rfl)) (hw _ (List.mem_of_getElem? (i := 83) rfl)) (hw _ (List.mem_of_getElem? (i := 6) rfl)) (hw _ (List.mem_of_getElem? (i := 85) rfl)) (by decide) at_272 (lenOf pd_6 rfl) rfl rfl (by decide) (W := 0) (Nat.le_of_eq rfl) (by decide) (by decide) (by decide) (q := 275) rfl
              replace w := w [(.int bb)] rfl
              replace w := w.iload (q := 277) (v := z232) at_275 rfl rfl
              rcases w.icmpNe (q := 284) (q' := 280) (xi := bb.toInt) (yi := z232.toInt) at_277 rfl rfl (by decide) (by decide) rfl with ⟨hc277, w⟩ | ⟨hc277, w⟩
              · replace w := w.iconst (q := 285) (z := (0 : Int32)) at_284 (by decide) rfl
                exfalso; omega
              · replace w := w.iconst (q := 281) (z := (1 : Int32)) at_280 (by decide) rfl
                replace w := w.goto (q := 285) at_281 (by decide) (by decide)
                exact w.retZ at_285 (z := 1) (by decide) rfl (by decide) (by decide)
          · replace w := w.iconst (q := 229) (z := (2 : Int32)) at_228 (by decide) rfl
            replace w := w.istore (q := 231) (l' := #[.val (.int x0), .val (.int x1), .val (.int x2), .val (.int x3), .val (.int x4), .val (.int x5), .val (.int (3 : Int32)), .val (.int c_x1), .val (.int c_x2), .val (.int c_x3), .val (.int (0 : Int32)), .val (.ref a), .val (.int z226), .val (.int i), .val (.int (2 : Int32)), .unset, .unset]) at_229 rfl rfl
            replace w := w.iload (q := 233) (v := c_x1) at_231 rfl rfl
            replace w := w.iload (q := 235) (v := c_x2) at_233 rfl rfl
            obtain ⟨z235, hz235⟩ : ∃ z : Int32, c_x1 + c_x2 = z := ⟨_, rfl⟩
            replace w := w.iadd (q := 236) at_235 hz235 rfl
            have fz235 := own_add hz235 (by omega) (by omega) (by omega) (by omega)
            replace w := w.istore (q := 238) (l' := #[.val (.int x0), .val (.int x1), .val (.int x2), .val (.int x3), .val (.int x4), .val (.int x5), .val (.int (3 : Int32)), .val (.int c_x1), .val (.int c_x2), .val (.int c_x3), .val (.int (0 : Int32)), .val (.ref a), .val (.int z226), .val (.int i), .val (.int (2 : Int32)), .val (.int z235), .unset]) at_236 rfl rfl
            replace w := w.goto (q := 254) at_238 (by decide) (by decide)
            replace w := w.aload (q := 256) (v := (.ref a)) at_254 rfl rfl rfl
            replace w := w.iload (q := 258) (v := i) at_256 rfl rfl
            obtain ⟨_, h236, ⟨rr, bb, rfl, S, hrr⟩, w⟩ := w.callV (a := a) (y := (⟨"com/example/lucky_fork/luckyfork/model/GroupSums", "findByIndex", "(I)I"⟩ : MethodName)) (argsL := [(.int i)]) (rest := []) (own_find_4 l Z a0 hw _ n0 S.z0 a r c p (2 : Int32) (0 : Int32) (0 : Int32) (0 : Int32) (0 : Int32) s1 s2 s3 c_x1 c_x2 c_x3 (0 : Int32) (4 : Int32) (5 : Int32) (0 : Int32) (0 : Int32) (0 : Int32) (0 : Int32) (0 : Int32) (0 : Int32) i S ⟨by omega, by omega⟩ ⟨by omega, by omega⟩ ⟨by omega, by omega⟩) (S.1.1) (hw _ (List.mem_of_getElem? (i := 74) rfl)) (hw _ (List.mem_of_getElem? (i := 75) rfl)) (hw _ (List.mem_of_getElem? (i := 77) rfl)) (hw _ (List.mem_of_getElem? (i := 76) rfl)) (hw _ (List.mem_of_getElem? (i := 6) rfl)) (hw _ (List.mem_of_getElem? (i := 78) rfl)) (by decide) at_258 (lenOf pd_0 rfl) rfl rfl (by decide) (W := 0) (Nat.le_of_eq rfl) (by decide) (by decide) (by decide) (q := 261) rfl
            replace w := w [(.int rr)] rfl
            replace w := w.istore (q := 263) (l' := #[.val (.int x0), .val (.int x1), .val (.int x2), .val (.int x3), .val (.int x4), .val (.int x5), .val (.int (3 : Int32)), .val (.int c_x1), .val (.int c_x2), .val (.int c_x3), .val (.int (0 : Int32)), .val (.ref a), .val (.int z226), .val (.int i), .val (.int (2 : Int32)), .val (.int z235), .val (.int rr)]) at_261 rfl rfl
            replace w := w.iload (q := 265) (v := rr) at_263 rfl rfl
            replace w := w.iload (q := 267) (v := (2 : Int32)) at_265 rfl rfl
            rcases w.icmpNe (q := 284) (q' := 270) (xi := rr.toInt) (yi := 2) at_267 rfl rfl (by decide) (by decide) rfl with ⟨hc267, w⟩ | ⟨hc267, w⟩
            · replace w := w.iconst (q := 285) (z := (0 : Int32)) at_284 (by decide) rfl
              exfalso; omega
            · replace w := w.aload (q := 272) (v := (.ref a)) at_270 rfl rfl rfl
              obtain ⟨_, h237, ⟨rfl, S⟩, w⟩ := w.callV (a := a) (y := (⟨"com/example/lucky_fork/luckyfork/model/GroupSums", "countBefore", "()I"⟩ : MethodName)) (argsL := []) (rest := []) (own_cb_4 l Z a0 hw _ n0 S.z0 a r c p (2 : Int32) (0 : Int32) (0 : Int32) bb (0 : Int32) s1 s2 s3 c_x1 c_x2 c_x3 (0 : Int32) (4 : Int32) (5 : Int32) (0 : Int32) (0 : Int32) (0 : Int32) (0 : Int32) (0 : Int32) (0 : Int32)  S ) (S.1.1) (hw _ (List.mem_of_getElem? (i := 81) rfl)) (hw _ (List.mem_of_getElem? (i := 82) rfl)) (hw _ (List.mem_of_getElem? (i := 84) rfl)) (hw _ (List.mem_of_getElem? (i := 83) rfl)) (hw _ (List.mem_of_getElem? (i := 6) rfl)) (hw _ (List.mem_of_getElem? (i := 85) rfl)) (by decide) at_272 (lenOf pd_6 rfl) rfl rfl (by decide) (W := 0) (Nat.le_of_eq rfl) (by decide) (by decide) (by decide) (q := 275) rfl
              replace w := w [(.int bb)] rfl
              replace w := w.iload (q := 277) (v := z235) at_275 rfl rfl
              rcases w.icmpNe (q := 284) (q' := 280) (xi := bb.toInt) (yi := z235.toInt) at_277 rfl rfl (by decide) (by decide) rfl with ⟨hc277, w⟩ | ⟨hc277, w⟩
              · replace w := w.iconst (q := 285) (z := (0 : Int32)) at_284 (by decide) rfl
                exfalso; omega
              · replace w := w.iconst (q := 281) (z := (1 : Int32)) at_280 (by decide) rfl
                replace w := w.goto (q := 285) at_281 (by decide) (by decide)
                exact w.retZ at_285 (z := 1) (by decide) rfl (by decide) (by decide)
        · replace w := w.iconst (q := 206) (z := (1 : Int32)) at_205 (by decide) rfl
          replace w := w.istore (q := 208) (l' := #[.val (.int x0), .val (.int x1), .val (.int x2), .val (.int x3), .val (.int x4), .val (.int x5), .val (.int (3 : Int32)), .val (.int c_x1), .val (.int c_x2), .val (.int c_x3), .val (.int (0 : Int32)), .val (.ref a), .val (.int z226), .val (.int i), .val (.int (1 : Int32)), .unset, .unset]) at_206 rfl rfl
          replace w := w.iload (q := 210) (v := c_x1) at_208 rfl rfl
          replace w := w.istore (q := 212) (l' := #[.val (.int x0), .val (.int x1), .val (.int x2), .val (.int x3), .val (.int x4), .val (.int x5), .val (.int (3 : Int32)), .val (.int c_x1), .val (.int c_x2), .val (.int c_x3), .val (.int (0 : Int32)), .val (.ref a), .val (.int z226), .val (.int i), .val (.int (1 : Int32)), .val (.int c_x1), .unset]) at_210 rfl rfl
          replace w := w.goto (q := 254) at_212 (by decide) (by decide)
          replace w := w.aload (q := 256) (v := (.ref a)) at_254 rfl rfl rfl
          replace w := w.iload (q := 258) (v := i) at_256 rfl rfl
          obtain ⟨_, h238, ⟨rr, bb, rfl, S, hrr⟩, w⟩ := w.callV (a := a) (y := (⟨"com/example/lucky_fork/luckyfork/model/GroupSums", "findByIndex", "(I)I"⟩ : MethodName)) (argsL := [(.int i)]) (rest := []) (own_find_4 l Z a0 hw _ n0 S.z0 a r c p (2 : Int32) (0 : Int32) (0 : Int32) (0 : Int32) (0 : Int32) s1 s2 s3 c_x1 c_x2 c_x3 (0 : Int32) (4 : Int32) (5 : Int32) (0 : Int32) (0 : Int32) (0 : Int32) (0 : Int32) (0 : Int32) (0 : Int32) i S ⟨by omega, by omega⟩ ⟨by omega, by omega⟩ ⟨by omega, by omega⟩) (S.1.1) (hw _ (List.mem_of_getElem? (i := 74) rfl)) (hw _ (List.mem_of_getElem? (i := 75) rfl)) (hw _ (List.mem_of_getElem? (i := 77) rfl)) (hw _ (List.mem_of_getElem? (i := 76) rfl)) (hw _ (List.mem_of_getElem? (i := 6) rfl)) (hw _ (List.mem_of_getElem? (i := 78) rfl)) (by decide) at_258 (lenOf pd_0 rfl) rfl rfl (by decide) (W := 0) (Nat.le_of_eq rfl) (by decide) (by decide) (by decide) (q := 261) rfl
          replace w := w [(.int rr)] rfl
          replace w := w.istore (q := 263) (l' := #[.val (.int x0), .val (.int x1), .val (.int x2), .val (.int x3), .val (.int x4), .val (.int x5), .val (.int (3 : Int32)), .val (.int c_x1), .val (.int c_x2), .val (.int c_x3), .val (.int (0 : Int32)), .val (.ref a), .val (.int z226), .val (.int i), .val (.int (1 : Int32)), .val (.int c_x1), .val (.int rr)]) at_261 rfl rfl
          replace w := w.iload (q := 265) (v := rr) at_263 rfl rfl
          replace w := w.iload (q := 267) (v := (1 : Int32)) at_265 rfl rfl
          rcases w.icmpNe (q := 284) (q' := 270) (xi := rr.toInt) (yi := 1) at_267 rfl rfl (by decide) (by decide) rfl with ⟨hc267, w⟩ | ⟨hc267, w⟩
          · replace w := w.iconst (q := 285) (z := (0 : Int32)) at_284 (by decide) rfl
            exfalso; omega
          · replace w := w.aload (q := 272) (v := (.ref a)) at_270 rfl rfl rfl
            obtain ⟨_, h239, ⟨rfl, S⟩, w⟩ := w.callV (a := a) (y := (⟨"com/example/lucky_fork/luckyfork/model/GroupSums", "countBefore", "()I"⟩ : MethodName)) (argsL := []) (rest := []) (own_cb_4 l Z a0 hw _ n0 S.z0 a r c p (2 : Int32) (0 : Int32) (0 : Int32) bb (0 : Int32) s1 s2 s3 c_x1 c_x2 c_x3 (0 : Int32) (4 : Int32) (5 : Int32) (0 : Int32) (0 : Int32) (0 : Int32) (0 : Int32) (0 : Int32) (0 : Int32)  S ) (S.1.1) (hw _ (List.mem_of_getElem? (i := 81) rfl)) (hw _ (List.mem_of_getElem? (i := 82) rfl)) (hw _ (List.mem_of_getElem? (i := 84) rfl)) (hw _ (List.mem_of_getElem? (i := 83) rfl)) (hw _ (List.mem_of_getElem? (i := 6) rfl)) (hw _ (List.mem_of_getElem? (i := 85) rfl)) (by decide) at_272 (lenOf pd_6 rfl) rfl rfl (by decide) (W := 0) (Nat.le_of_eq rfl) (by decide) (by decide) (by decide) (q := 275) rfl
            replace w := w [(.int bb)] rfl
            replace w := w.iload (q := 277) (v := c_x1) at_275 rfl rfl
            rcases w.icmpNe (q := 284) (q' := 280) (xi := bb.toInt) (yi := c_x1.toInt) at_277 rfl rfl (by decide) (by decide) rfl with ⟨hc277, w⟩ | ⟨hc277, w⟩
            · replace w := w.iconst (q := 285) (z := (0 : Int32)) at_284 (by decide) rfl
              exfalso; omega
            · replace w := w.iconst (q := 281) (z := (1 : Int32)) at_280 (by decide) rfl
              replace w := w.goto (q := 285) at_281 (by decide) (by decide)
              exact w.retZ at_285 (z := 1) (by decide) rfl (by decide) (by decide)
      · replace w := w.iconst (q := 187) (z := (0 : Int32)) at_186 (by decide) rfl
        replace w := w.istore (q := 189) (l' := #[.val (.int x0), .val (.int x1), .val (.int x2), .val (.int x3), .val (.int x4), .val (.int x5), .val (.int (3 : Int32)), .val (.int c_x1), .val (.int c_x2), .val (.int c_x3), .val (.int (0 : Int32)), .val (.ref a), .val (.int z226), .val (.int i), .val (.int (0 : Int32)), .unset, .unset]) at_187 rfl rfl
        replace w := w.iconst (q := 190) (z := (0 : Int32)) at_189 (by decide) rfl
        replace w := w.istore (q := 192) (l' := #[.val (.int x0), .val (.int x1), .val (.int x2), .val (.int x3), .val (.int x4), .val (.int x5), .val (.int (3 : Int32)), .val (.int c_x1), .val (.int c_x2), .val (.int c_x3), .val (.int (0 : Int32)), .val (.ref a), .val (.int z226), .val (.int i), .val (.int (0 : Int32)), .val (.int (0 : Int32)), .unset]) at_190 rfl rfl
        replace w := w.goto (q := 254) at_192 (by decide) (by decide)
        replace w := w.aload (q := 256) (v := (.ref a)) at_254 rfl rfl rfl
        replace w := w.iload (q := 258) (v := i) at_256 rfl rfl
        obtain ⟨_, h240, ⟨rr, bb, rfl, S, hrr⟩, w⟩ := w.callV (a := a) (y := (⟨"com/example/lucky_fork/luckyfork/model/GroupSums", "findByIndex", "(I)I"⟩ : MethodName)) (argsL := [(.int i)]) (rest := []) (own_find_4 l Z a0 hw _ n0 S.z0 a r c p (2 : Int32) (0 : Int32) (0 : Int32) (0 : Int32) (0 : Int32) s1 s2 s3 c_x1 c_x2 c_x3 (0 : Int32) (4 : Int32) (5 : Int32) (0 : Int32) (0 : Int32) (0 : Int32) (0 : Int32) (0 : Int32) (0 : Int32) i S ⟨by omega, by omega⟩ ⟨by omega, by omega⟩ ⟨by omega, by omega⟩) (S.1.1) (hw _ (List.mem_of_getElem? (i := 74) rfl)) (hw _ (List.mem_of_getElem? (i := 75) rfl)) (hw _ (List.mem_of_getElem? (i := 77) rfl)) (hw _ (List.mem_of_getElem? (i := 76) rfl)) (hw _ (List.mem_of_getElem? (i := 6) rfl)) (hw _ (List.mem_of_getElem? (i := 78) rfl)) (by decide) at_258 (lenOf pd_0 rfl) rfl rfl (by decide) (W := 0) (Nat.le_of_eq rfl) (by decide) (by decide) (by decide) (q := 261) rfl
        replace w := w [(.int rr)] rfl
        replace w := w.istore (q := 263) (l' := #[.val (.int x0), .val (.int x1), .val (.int x2), .val (.int x3), .val (.int x4), .val (.int x5), .val (.int (3 : Int32)), .val (.int c_x1), .val (.int c_x2), .val (.int c_x3), .val (.int (0 : Int32)), .val (.ref a), .val (.int z226), .val (.int i), .val (.int (0 : Int32)), .val (.int (0 : Int32)), .val (.int rr)]) at_261 rfl rfl
        replace w := w.iload (q := 265) (v := rr) at_263 rfl rfl
        replace w := w.iload (q := 267) (v := (0 : Int32)) at_265 rfl rfl
        rcases w.icmpNe (q := 284) (q' := 270) (xi := rr.toInt) (yi := 0) at_267 rfl rfl (by decide) (by decide) rfl with ⟨hc267, w⟩ | ⟨hc267, w⟩
        · replace w := w.iconst (q := 285) (z := (0 : Int32)) at_284 (by decide) rfl
          exfalso; omega
        · replace w := w.aload (q := 272) (v := (.ref a)) at_270 rfl rfl rfl
          obtain ⟨_, h241, ⟨rfl, S⟩, w⟩ := w.callV (a := a) (y := (⟨"com/example/lucky_fork/luckyfork/model/GroupSums", "countBefore", "()I"⟩ : MethodName)) (argsL := []) (rest := []) (own_cb_4 l Z a0 hw _ n0 S.z0 a r c p (2 : Int32) (0 : Int32) (0 : Int32) bb (0 : Int32) s1 s2 s3 c_x1 c_x2 c_x3 (0 : Int32) (4 : Int32) (5 : Int32) (0 : Int32) (0 : Int32) (0 : Int32) (0 : Int32) (0 : Int32) (0 : Int32)  S ) (S.1.1) (hw _ (List.mem_of_getElem? (i := 81) rfl)) (hw _ (List.mem_of_getElem? (i := 82) rfl)) (hw _ (List.mem_of_getElem? (i := 84) rfl)) (hw _ (List.mem_of_getElem? (i := 83) rfl)) (hw _ (List.mem_of_getElem? (i := 6) rfl)) (hw _ (List.mem_of_getElem? (i := 85) rfl)) (by decide) at_272 (lenOf pd_6 rfl) rfl rfl (by decide) (W := 0) (Nat.le_of_eq rfl) (by decide) (by decide) (by decide) (q := 275) rfl
          replace w := w [(.int bb)] rfl
          replace w := w.iload (q := 277) (v := (0 : Int32)) at_275 rfl rfl
          rcases w.icmpNe (q := 284) (q' := 280) (xi := bb.toInt) (yi := 0) at_277 rfl rfl (by decide) (by decide) rfl with ⟨hc277, w⟩ | ⟨hc277, w⟩
          · replace w := w.iconst (q := 285) (z := (0 : Int32)) at_284 (by decide) rfl
            exfalso; omega
          · replace w := w.iconst (q := 281) (z := (1 : Int32)) at_280 (by decide) rfl
            replace w := w.goto (q := 285) at_281 (by decide) (by decide)
            exact w.retZ at_285 (z := 1) (by decide) rfl (by decide) (by decide)
    · replace w := w.iconst (q := 168) (z := (1 : Int32)) at_167 (by decide) rfl
      exact w.retZ at_168 (z := 1) (by decide) rfl (by decide) (by decide)
  · replace w := w.istore (q := 7) (l' := #[.val (.int x0), .val (.int x1), .val (.int x2), .val (.int x3), .val (.int x4), .val (.int x5), .val (.int (4 : Int32)), .unset, .unset, .unset, .unset, .unset, .unset, .unset, .unset, .unset, .unset]) at_5 rfl rfl
    replace w := w.iloadN (q := 8) (v := x1) at_7 rfl rfl
    obtain ⟨_, _, ⟨eh, c_x1, rfl, bc_x1, dc_x1⟩, w⟩ := w.callS (y := (⟨"com/example/lucky_fork/luckyfork/model/GroupSumsFindByIndexPinLaw", "cnt", "(I)I"⟩ : MethodName)) (argsL := [(.int x1)]) (rest := []) (own_cnt l Z a0 hw h0 n0 Z0 x1) (hw _ (List.mem_of_getElem? (i := 0) rfl)) (hw _ (List.mem_of_getElem? (i := 1) rfl)) (hw _ (List.mem_of_getElem? (i := 2) rfl)) (hw _ (List.mem_of_getElem? (i := 3) rfl)) (by decide) at_8 (lenOf pd_0 rfl) rfl rfl (by decide) (W := 0) (Nat.le_of_eq rfl) (by decide) (by decide) (by decide) (q := 11) rfl
    rw [eh] at w
    replace w := w [(.int c_x1)] rfl
    replace w := w.istore (q := 13) (l' := #[.val (.int x0), .val (.int x1), .val (.int x2), .val (.int x3), .val (.int x4), .val (.int x5), .val (.int (4 : Int32)), .val (.int c_x1), .unset, .unset, .unset, .unset, .unset, .unset, .unset, .unset, .unset]) at_11 rfl rfl
    replace w := w.iload (q := 15) (v := (4 : Int32)) at_13 rfl rfl
    replace w := w.iconst (q := 16) (z := (1 : Int32)) at_15 (by decide) rfl
    obtain ⟨-, w⟩ := (w.icmpLe (q := 26) (q' := 19) (xi := 4) (yi := 1) at_16 rfl rfl (by decide) (by decide) rfl).resolve_left (fun g => by have hc16 := g.1; revert hc16; decide)
    replace w := w.iloadN (q := 20) (v := x2) at_19 rfl rfl
    obtain ⟨_, _, ⟨eh, c_x2, rfl, bc_x2, dc_x2⟩, w⟩ := w.callS (y := (⟨"com/example/lucky_fork/luckyfork/model/GroupSumsFindByIndexPinLaw", "cnt", "(I)I"⟩ : MethodName)) (argsL := [(.int x2)]) (rest := []) (own_cnt l Z a0 hw h0 n0 Z0 x2) (hw _ (List.mem_of_getElem? (i := 0) rfl)) (hw _ (List.mem_of_getElem? (i := 1) rfl)) (hw _ (List.mem_of_getElem? (i := 2) rfl)) (hw _ (List.mem_of_getElem? (i := 3) rfl)) (by decide) at_20 (lenOf pd_0 rfl) rfl rfl (by decide) (W := 0) (Nat.le_of_eq rfl) (by decide) (by decide) (by decide) (q := 23) rfl
    rw [eh] at w
    replace w := w [(.int c_x2)] rfl
    replace w := w.goto (q := 27) at_23 (by decide) (by decide)
    replace w := w.istore (q := 29) (l' := #[.val (.int x0), .val (.int x1), .val (.int x2), .val (.int x3), .val (.int x4), .val (.int x5), .val (.int (4 : Int32)), .val (.int c_x1), .val (.int c_x2), .unset, .unset, .unset, .unset, .unset, .unset, .unset, .unset]) at_27 rfl rfl
    replace w := w.iload (q := 31) (v := (4 : Int32)) at_29 rfl rfl
    replace w := w.iconst (q := 32) (z := (2 : Int32)) at_31 (by decide) rfl
    obtain ⟨-, w⟩ := (w.icmpLe (q := 42) (q' := 35) (xi := 4) (yi := 2) at_32 rfl rfl (by decide) (by decide) rfl).resolve_left (fun g => by have hc32 := g.1; revert hc32; decide)
    replace w := w.iloadN (q := 36) (v := x3) at_35 rfl rfl
    obtain ⟨_, _, ⟨eh, c_x3, rfl, bc_x3, dc_x3⟩, w⟩ := w.callS (y := (⟨"com/example/lucky_fork/luckyfork/model/GroupSumsFindByIndexPinLaw", "cnt", "(I)I"⟩ : MethodName)) (argsL := [(.int x3)]) (rest := []) (own_cnt l Z a0 hw h0 n0 Z0 x3) (hw _ (List.mem_of_getElem? (i := 0) rfl)) (hw _ (List.mem_of_getElem? (i := 1) rfl)) (hw _ (List.mem_of_getElem? (i := 2) rfl)) (hw _ (List.mem_of_getElem? (i := 3) rfl)) (by decide) at_36 (lenOf pd_0 rfl) rfl rfl (by decide) (W := 0) (Nat.le_of_eq rfl) (by decide) (by decide) (by decide) (q := 39) rfl
    rw [eh] at w
    replace w := w [(.int c_x3)] rfl
    replace w := w.goto (q := 43) at_39 (by decide) (by decide)
    replace w := w.istore (q := 45) (l' := #[.val (.int x0), .val (.int x1), .val (.int x2), .val (.int x3), .val (.int x4), .val (.int x5), .val (.int (4 : Int32)), .val (.int c_x1), .val (.int c_x2), .val (.int c_x3), .unset, .unset, .unset, .unset, .unset, .unset, .unset]) at_43 rfl rfl
    replace w := w.iload (q := 47) (v := (4 : Int32)) at_45 rfl rfl
    replace w := w.iconst (q := 48) (z := (3 : Int32)) at_47 (by decide) rfl
    obtain ⟨-, w⟩ := (w.icmpLe (q := 59) (q' := 51) (xi := 4) (yi := 3) at_48 rfl rfl (by decide) (by decide) rfl).resolve_left (fun g => by have hc48 := g.1; revert hc48; decide)
    replace w := w.iload (q := 53) (v := x4) at_51 rfl rfl
    obtain ⟨_, _, ⟨eh, c_x4, rfl, bc_x4, dc_x4⟩, w⟩ := w.callS (y := (⟨"com/example/lucky_fork/luckyfork/model/GroupSumsFindByIndexPinLaw", "cnt", "(I)I"⟩ : MethodName)) (argsL := [(.int x4)]) (rest := []) (own_cnt l Z a0 hw h0 n0 Z0 x4) (hw _ (List.mem_of_getElem? (i := 0) rfl)) (hw _ (List.mem_of_getElem? (i := 1) rfl)) (hw _ (List.mem_of_getElem? (i := 2) rfl)) (hw _ (List.mem_of_getElem? (i := 3) rfl)) (by decide) at_53 (lenOf pd_0 rfl) rfl rfl (by decide) (W := 0) (Nat.le_of_eq rfl) (by decide) (by decide) (by decide) (q := 56) rfl
    rw [eh] at w
    replace w := w [(.int c_x4)] rfl
    replace w := w.goto (q := 60) at_56 (by decide) (by decide)
    replace w := w.istore (q := 62) (l' := #[.val (.int x0), .val (.int x1), .val (.int x2), .val (.int x3), .val (.int x4), .val (.int x5), .val (.int (4 : Int32)), .val (.int c_x1), .val (.int c_x2), .val (.int c_x3), .val (.int c_x4), .unset, .unset, .unset, .unset, .unset, .unset]) at_60 rfl rfl
    obtain ⟨h1, a, ea, E, A, D, w⟩ := w.newO (q := 65) (hw _ (List.mem_of_getElem? (i := 4) rfl)) (hw _ (List.mem_of_getElem? (i := 5) rfl)) (hw _ (List.mem_of_getElem? (i := 6) rfl)) at_62 (by decide) (by decide) rfl
    have Fleaves : Fld Z h1 a "com/example/lucky_fork/luckyfork/model/GroupSums" "leaves" "I" (.int (0 : Int32)) := D (Or.inl (hw _ (List.mem_of_getElem? (i := 14) rfl))) (ty := .int) (by decide)
    have Fdepth : Fld Z h1 a "com/example/lucky_fork/luckyfork/model/GroupSums" "depth" "I" (.int (0 : Int32)) := D (Or.inl (hw _ (List.mem_of_getElem? (i := 45) rfl))) (ty := .int) (by decide)
    have Frates : Fld Z h1 a "com/example/lucky_fork/luckyfork/model/GroupSums" "rates" "[D" .null := D (Or.inl (hw _ (List.mem_of_getElem? (i := 17) rfl))) (ty := (.array .double)) (by decide)
    have Fcounts : Fld Z h1 a "com/example/lucky_fork/luckyfork/model/GroupSums" "counts" "[I" .null := D (Or.inl (hw _ (List.mem_of_getElem? (i := 20) rfl))) (ty := (.array .int)) (by decide)
    have Fpending : Fld Z h1 a "com/example/lucky_fork/luckyfork/model/GroupSums" "pending" "[I" .null := D (Or.inl (hw _ (List.mem_of_getElem? (i := 22) rfl))) (ty := (.array .int)) (by decide)
    have FpendingCount : Fld Z h1 a "com/example/lucky_fork/luckyfork/model/GroupSums" "pendingCount" "I" (.int (0 : Int32)) := D (Or.inl (hw _ (List.mem_of_getElem? (i := 36) rfl))) (ty := .int) (by decide)
    have Frebuild : Fld Z h1 a "com/example/lucky_fork/luckyfork/model/GroupSums" "rebuild" "Z" (.int (0 : Int32)) := D (Or.inl (hw _ (List.mem_of_getElem? (i := 38) rfl))) (ty := .boolean) (by decide)
    have FcountBefore : Fld Z h1 a "com/example/lucky_fork/luckyfork/model/GroupSums" "countBefore" "I" (.int (0 : Int32)) := D (Or.inl (hw _ (List.mem_of_getElem? (i := 80) rfl))) (ty := .int) (by decide)
    have ge : n0 ≤ a := by rw [ea]; exact Z0
    have S0 : Gs Z h1 a (.int 0) (.int 0) .null .null .null (.int 0) (.int 0) (.int 0) := ⟨A, Fleaves, Fdepth, Frates, Fcounts, Fpending, FpendingCount, Frebuild, FcountBefore⟩
    replace w := w.dup (q := 66) at_65 rfl rfl
    obtain ⟨_, h2, ⟨rfl, r, c, p, S⟩, w⟩ := w.callI (a := a) (y := (⟨"com/example/lucky_fork/luckyfork/model/GroupSums", "<init>", "()V"⟩ : MethodName)) (argsL := []) (rest := [(.ref a)]) (own_init l Z a0 hw h1 n0 (Nat.le_of_lt (Nat.lt_of_le_of_lt ge S0.lt)) a ge S0) rfl (hw _ (List.mem_of_getElem? (i := 7) rfl)) (hw _ (List.mem_of_getElem? (i := 8) rfl)) (hw _ (List.mem_of_getElem? (i := 6) rfl)) (hw _ (List.mem_of_getElem? (i := 9) rfl)) (by decide) at_66 (lenOf pd_4 rfl) rfl rfl (by decide) (W := 1) (Nat.le_of_eq rfl) (by decide) (by decide) (by decide) (q := 69) rfl
    replace w := w [(.ref a)] rfl
    replace w := w.astore (q := 71) (l' := #[.val (.int x0), .val (.int x1), .val (.int x2), .val (.int x3), .val (.int x4), .val (.int x5), .val (.int (4 : Int32)), .val (.int c_x1), .val (.int c_x2), .val (.int c_x3), .val (.int c_x4), .val (.ref a), .unset, .unset, .unset, .unset, .unset]) at_69 rfl rfl rfl
    replace w := w.aload (q := 73) (v := (.ref a)) at_71 rfl rfl rfl
    replace w := w.iload (q := 75) (v := (4 : Int32)) at_73 rfl rfl
    obtain ⟨_, h242, ⟨rfl, r, c, S⟩, w⟩ := w.callV (a := a) (y := (⟨"com/example/lucky_fork/luckyfork/model/GroupSums", "clear", "(I)V"⟩ : MethodName)) (argsL := [(.int (4 : Int32))]) (rest := []) (own_clear_4 l Z a0 hw _ n0 S.z0 a r c p S) (S.1.1) (hw _ (List.mem_of_getElem? (i := 23) rfl)) (hw _ (List.mem_of_getElem? (i := 24) rfl)) (hw _ (List.mem_of_getElem? (i := 26) rfl)) (hw _ (List.mem_of_getElem? (i := 25) rfl)) (hw _ (List.mem_of_getElem? (i := 6) rfl)) (hw _ (List.mem_of_getElem? (i := 27) rfl)) (by decide) at_75 (lenOf pd_3 rfl) rfl rfl (by decide) (W := 0) (Nat.le_of_eq rfl) (by decide) (by decide) (by decide) (q := 78) rfl
    replace w := w [] rfl
    replace w := w.aload (q := 80) (v := (.ref a)) at_78 rfl rfl rfl
    replace w := w.iconst (q := 81) (z := (0 : Int32)) at_80 (by decide) rfl
    replace w := w.dconst0 (q := 82) (z := 0) at_81 rfl rfl
    replace w := w.iload (q := 84) (v := c_x1) at_82 rfl rfl
    obtain ⟨_, h243, ⟨rfl, S⟩, w⟩ := w.callV (a := a) (y := (⟨"com/example/lucky_fork/luckyfork/model/GroupSums", "set", "(IDI)V"⟩ : MethodName)) (argsL := [(.int (0 : Int32)), (.double (0 : UInt64)), (.int c_x1)]) (rest := []) (own_set_4_0 l Z a0 hw _ n0 S.z0 a r c p (0 : Int32) (0 : Int32) (0 : Int32) (0 : Int32) (0 : Int32) (0 : Int32) (0 : Int32) (0 : Int32) (0 : Int32) (0 : Int32) (0 : Int32) (0 : Int32) (0 : Int32) (0 : Int32) (0 : Int32) (0 : Int32) (0 : Int32) c_x1 S) (S.1.1) (hw _ (List.mem_of_getElem? (i := 39) rfl)) (hw _ (List.mem_of_getElem? (i := 40) rfl)) (hw _ (List.mem_of_getElem? (i := 42) rfl)) (hw _ (List.mem_of_getElem? (i := 41) rfl)) (hw _ (List.mem_of_getElem? (i := 6) rfl)) (hw _ (List.mem_of_getElem? (i := 43) rfl)) (by decide) at_84 (lenOf pd_5 rfl) rfl rfl (by decide) (W := 0) (Nat.le_of_eq rfl) (by decide) (by decide) (by decide) (q := 87) rfl
    replace w := w [] rfl
    replace w := w.iload (q := 89) (v := (4 : Int32)) at_87 rfl rfl
    replace w := w.iconst (q := 90) (z := (1 : Int32)) at_89 (by decide) rfl
    obtain ⟨-, w⟩ := (w.icmpLe (q := 102) (q' := 93) (xi := 4) (yi := 1) at_90 rfl rfl (by decide) (by decide) rfl).resolve_left (fun g => by have hc90 := g.1; revert hc90; decide)
    replace w := w.aload (q := 95) (v := (.ref a)) at_93 rfl rfl rfl
    replace w := w.iconst (q := 96) (z := (1 : Int32)) at_95 (by decide) rfl
    replace w := w.dconst0 (q := 97) (z := 0) at_96 rfl rfl
    replace w := w.iload (q := 99) (v := c_x2) at_97 rfl rfl
    obtain ⟨_, h244, ⟨rfl, S⟩, w⟩ := w.callV (a := a) (y := (⟨"com/example/lucky_fork/luckyfork/model/GroupSums", "set", "(IDI)V"⟩ : MethodName)) (argsL := [(.int (1 : Int32)), (.double (0 : UInt64)), (.int c_x2)]) (rest := []) (own_set_4_1 l Z a0 hw _ n0 S.z0 a r c p (0 : Int32) (0 : Int32) (0 : Int32) (0 : Int32) (0 : Int32) c_x1 (0 : Int32) (0 : Int32) (0 : Int32) (4 : Int32) (0 : Int32) (0 : Int32) (0 : Int32) (0 : Int32) (0 : Int32) (0 : Int32) (0 : Int32) c_x2 S) (S.1.1) (hw _ (List.mem_of_getElem? (i := 39) rfl)) (hw _ (List.mem_of_getElem? (i := 40) rfl)) (hw _ (List.mem_of_getElem? (i := 42) rfl)) (hw _ (List.mem_of_getElem? (i := 41) rfl)) (hw _ (List.mem_of_getElem? (i := 6) rfl)) (hw _ (List.mem_of_getElem? (i := 43) rfl)) (by decide) at_99 (lenOf pd_5 rfl) rfl rfl (by decide) (W := 0) (Nat.le_of_eq rfl) (by decide) (by decide) (by decide) (q := 102) rfl
    replace w := w [] rfl
    replace w := w.iload (q := 104) (v := (4 : Int32)) at_102 rfl rfl
    replace w := w.iconst (q := 105) (z := (2 : Int32)) at_104 (by decide) rfl
    obtain ⟨-, w⟩ := (w.icmpLe (q := 117) (q' := 108) (xi := 4) (yi := 2) at_105 rfl rfl (by decide) (by decide) rfl).resolve_left (fun g => by have hc105 := g.1; revert hc105; decide)
    replace w := w.aload (q := 110) (v := (.ref a)) at_108 rfl rfl rfl
    replace w := w.iconst (q := 111) (z := (2 : Int32)) at_110 (by decide) rfl
    replace w := w.dconst0 (q := 112) (z := 0) at_111 rfl rfl
    replace w := w.iload (q := 114) (v := c_x3) at_112 rfl rfl
    obtain ⟨_, h245, ⟨rfl, S⟩, w⟩ := w.callV (a := a) (y := (⟨"com/example/lucky_fork/luckyfork/model/GroupSums", "set", "(IDI)V"⟩ : MethodName)) (argsL := [(.int (2 : Int32)), (.double (0 : UInt64)), (.int c_x3)]) (rest := []) (own_set_4_2 l Z a0 hw _ n0 S.z0 a r c p (0 : Int32) (0 : Int32) (0 : Int32) (0 : Int32) (0 : Int32) c_x1 c_x2 (0 : Int32) (0 : Int32) (4 : Int32) (5 : Int32) (0 : Int32) (0 : Int32) (0 : Int32) (0 : Int32) (0 : Int32) (0 : Int32) c_x3 S) (S.1.1) (hw _ (List.mem_of_getElem? (i := 39) rfl)) (hw _ (List.mem_of_getElem? (i := 40) rfl)) (hw _ (List.mem_of_getElem? (i := 42) rfl)) (hw _ (List.mem_of_getElem? (i := 41) rfl)) (hw _ (List.mem_of_getElem? (i := 6) rfl)) (hw _ (List.mem_of_getElem? (i := 43) rfl)) (by decide) at_114 (lenOf pd_5 rfl) rfl rfl (by decide) (W := 0) (Nat.le_of_eq rfl) (by decide) (by decide) (by decide) (q := 117) rfl
    replace w := w [] rfl
    replace w := w.iload (q := 119) (v := (4 : Int32)) at_117 rfl rfl
    replace w := w.iconst (q := 120) (z := (3 : Int32)) at_119 (by decide) rfl
    obtain ⟨-, w⟩ := (w.icmpLe (q := 132) (q' := 123) (xi := 4) (yi := 3) at_120 rfl rfl (by decide) (by decide) rfl).resolve_left (fun g => by have hc120 := g.1; revert hc120; decide)
    replace w := w.aload (q := 125) (v := (.ref a)) at_123 rfl rfl rfl
    replace w := w.iconst (q := 126) (z := (3 : Int32)) at_125 (by decide) rfl
    replace w := w.dconst0 (q := 127) (z := 0) at_126 rfl rfl
    replace w := w.iload (q := 129) (v := c_x4) at_127 rfl rfl
    obtain ⟨_, h246, ⟨rfl, S⟩, w⟩ := w.callV (a := a) (y := (⟨"com/example/lucky_fork/luckyfork/model/GroupSums", "set", "(IDI)V"⟩ : MethodName)) (argsL := [(.int (3 : Int32)), (.double (0 : UInt64)), (.int c_x4)]) (rest := []) (own_set_4_3 l Z a0 hw _ n0 S.z0 a r c p (0 : Int32) (0 : Int32) (0 : Int32) (0 : Int32) (0 : Int32) c_x1 c_x2 c_x3 (0 : Int32) (4 : Int32) (5 : Int32) (0 : Int32) (0 : Int32) (0 : Int32) (0 : Int32) (0 : Int32) (0 : Int32) c_x4 S) (S.1.1) (hw _ (List.mem_of_getElem? (i := 39) rfl)) (hw _ (List.mem_of_getElem? (i := 40) rfl)) (hw _ (List.mem_of_getElem? (i := 42) rfl)) (hw _ (List.mem_of_getElem? (i := 41) rfl)) (hw _ (List.mem_of_getElem? (i := 6) rfl)) (hw _ (List.mem_of_getElem? (i := 43) rfl)) (by decide) at_129 (lenOf pd_5 rfl) rfl rfl (by decide) (W := 0) (Nat.le_of_eq rfl) (by decide) (by decide) (by decide) (q := 132) rfl
    replace w := w [] rfl
    replace w := w.aload (q := 134) (v := (.ref a)) at_132 rfl rfl rfl
    obtain ⟨_, h247, ⟨rfl, S⟩, w⟩ := w.callV (a := a) (y := (⟨"com/example/lucky_fork/luckyfork/model/GroupSums", "settle", "()V"⟩ : MethodName)) (argsL := []) (rest := []) (own_settle_4 l Z a0 hw _ n0 S.z0 a r c p (0 : Int32) (0 : Int32) (0 : Int32) (0 : Int32) (0 : Int32) c_x1 c_x2 c_x3 c_x4 (4 : Int32) (5 : Int32) (0 : Int32) (0 : Int32) (0 : Int32) (0 : Int32) (0 : Int32) (0 : Int32)  S ) (S.1.1) (hw _ (List.mem_of_getElem? (i := 46) rfl)) (hw _ (List.mem_of_getElem? (i := 47) rfl)) (hw _ (List.mem_of_getElem? (i := 49) rfl)) (hw _ (List.mem_of_getElem? (i := 48) rfl)) (hw _ (List.mem_of_getElem? (i := 6) rfl)) (hw _ (List.mem_of_getElem? (i := 50) rfl)) (by decide) at_134 (lenOf pd_4 rfl) rfl rfl (by decide) (W := 0) (Nat.le_of_eq rfl) (by decide) (by decide) (by decide) (q := 137) rfl
    replace w := w [] rfl
    have e00 : (0 : Int32).toInt = 0 := rfl
    obtain ⟨s2, hs2⟩ : ∃ z : Int32, (c_x1 + c_x2) = z := ⟨_, rfl⟩
    rw [hs2] at S
    have fs2 := own_add hs2 (by omega) (by omega) (by omega) (by omega)
    obtain ⟨s3, hs3⟩ : ∃ z : Int32, (c_x3 + c_x4) = z := ⟨_, rfl⟩
    rw [hs3] at S
    have fs3 := own_add hs3 (by omega) (by omega) (by omega) (by omega)
    obtain ⟨s1, hs1⟩ : ∃ z : Int32, (s2 + s3) = z := ⟨_, rfl⟩
    rw [hs1] at S
    have fs1 := own_add hs1 (by omega) (by omega) (by omega) (by omega)
    replace S : Gt Z h247 n0 a r c p (4 : Int32) (2 : Int32) (0 : Int32) (0 : Int32) (0 : Int32) [(.double (0 : UInt64)), (.double (0 : UInt64)), (.double (0 : UInt64)), (.double (0 : UInt64)), (.double (0 : UInt64)), (.double (0 : UInt64)), (.double (0 : UInt64)), (.double (0 : UInt64))] [(.int (0 : Int32)), (.int s1), (.int s2), (.int s3), (.int c_x1), (.int c_x2), (.int c_x3), (.int c_x4)] [(.int (4 : Int32)), (.int (5 : Int32)), (.int (0 : Int32)), (.int (0 : Int32)), (.int (0 : Int32)), (.int (0 : Int32)), (.int (0 : Int32)), (.int (0 : Int32))] := S
    replace w := w.iload (q := 139) (v := c_x1) at_137 rfl rfl
    replace w := w.iload (q := 141) (v := c_x2) at_139 rfl rfl
    obtain ⟨z248, hz248⟩ : ∃ z : Int32, c_x1 + c_x2 = z := ⟨_, rfl⟩
    replace w := w.iadd (q := 142) at_141 hz248 rfl
    have fz248 := own_add hz248 (by omega) (by omega) (by omega) (by omega)
    replace w := w.iload (q := 144) (v := c_x3) at_142 rfl rfl
    obtain ⟨z249, hz249⟩ : ∃ z : Int32, z248 + c_x3 = z := ⟨_, rfl⟩
    replace w := w.iadd (q := 145) at_144 hz249 rfl
    have fz249 := own_add hz249 (by omega) (by omega) (by omega) (by omega)
    replace w := w.iload (q := 147) (v := c_x4) at_145 rfl rfl
    obtain ⟨z250, hz250⟩ : ∃ z : Int32, z249 + c_x4 = z := ⟨_, rfl⟩
    replace w := w.iadd (q := 148) at_147 hz250 rfl
    have fz250 := own_add hz250 (by omega) (by omega) (by omega) (by omega)
    replace w := w.istore (q := 150) (l' := #[.val (.int x0), .val (.int x1), .val (.int x2), .val (.int x3), .val (.int x4), .val (.int x5), .val (.int (4 : Int32)), .val (.int c_x1), .val (.int c_x2), .val (.int c_x3), .val (.int c_x4), .val (.ref a), .val (.int z250), .unset, .unset, .unset, .unset]) at_148 rfl rfl
    replace w := w.aload (q := 152) (v := (.ref a)) at_150 rfl rfl rfl
    obtain ⟨_, h251, ⟨rfl, S⟩, w⟩ := w.callV (a := a) (y := (⟨"com/example/lucky_fork/luckyfork/model/GroupSums", "size", "()I"⟩ : MethodName)) (argsL := []) (rest := []) (own_size_4 l Z a0 hw _ n0 S.z0 a r c p (2 : Int32) (0 : Int32) (0 : Int32) (0 : Int32) (0 : Int32) s1 s2 s3 c_x1 c_x2 c_x3 c_x4 (4 : Int32) (5 : Int32) (0 : Int32) (0 : Int32) (0 : Int32) (0 : Int32) (0 : Int32) (0 : Int32)  S ) (S.1.1) (hw _ (List.mem_of_getElem? (i := 51) rfl)) (hw _ (List.mem_of_getElem? (i := 52) rfl)) (hw _ (List.mem_of_getElem? (i := 54) rfl)) (hw _ (List.mem_of_getElem? (i := 53) rfl)) (hw _ (List.mem_of_getElem? (i := 6) rfl)) (hw _ (List.mem_of_getElem? (i := 55) rfl)) (by decide) at_152 (lenOf pd_6 rfl) rfl rfl (by decide) (W := 0) (Nat.le_of_eq rfl) (by decide) (by decide) (by decide) (q := 155) rfl
    replace w := w [(.int s1)] rfl
    replace w := w.iload (q := 157) (v := z250) at_155 rfl rfl
    obtain ⟨hc157, w⟩ := (w.icmpEq (q := 162) (q' := 160) (xi := s1.toInt) (yi := z250.toInt) at_157 rfl rfl (by decide) (by decide) rfl).resolve_right (fun g => by have hc157 := g.1; omega)
    replace w := w.iload (q := 164) (v := z250) at_162 rfl rfl
    rcases w.ifNe (q := 169) (q' := 167) (xi := z250.toInt) at_164 rfl (by decide) (by decide) rfl with ⟨hc164, w⟩ | ⟨hc164, w⟩
    · replace w := w.iload (q := 171) (v := x5) at_169 rfl rfl
      replace w := w.ldcI (q := 173) (z := (2147483647 : Int32)) (hw _ (List.mem_of_getElem? (i := 73) rfl)) at_171 rfl
      obtain ⟨zk, hzk⟩ : ∃ z : Int32, x5 &&& (2147483647 : Int32) = z := ⟨_, rfl⟩
      replace w := w.iand (q := 174) at_173 hzk rfl
      replace w := w.iload (q := 176) (v := z250) at_174 rfl rfl
      obtain ⟨i, hi⟩ : ∃ z : Int32, zk % z250 = z := ⟨_, rfl⟩
      replace w := w.irem (q := 177) at_176 (own_nz hc164) hi rfl
      have ib := own_rem hi (by rw [← hzk]; exact own_mask _) (by omega)
      replace w := w.istore (q := 179) (l' := #[.val (.int x0), .val (.int x1), .val (.int x2), .val (.int x3), .val (.int x4), .val (.int x5), .val (.int (4 : Int32)), .val (.int c_x1), .val (.int c_x2), .val (.int c_x3), .val (.int c_x4), .val (.ref a), .val (.int z250), .val (.int i), .unset, .unset, .unset]) at_177 rfl rfl
      replace w := w.iload (q := 181) (v := i) at_179 rfl rfl
      replace w := w.iload (q := 183) (v := c_x1) at_181 rfl rfl
      rcases w.icmpGe (q := 195) (q' := 186) (xi := i.toInt) (yi := c_x1.toInt) at_183 rfl rfl (by decide) (by decide) rfl with ⟨hc183, w⟩ | ⟨hc183, w⟩
      · replace w := w.iload (q := 197) (v := i) at_195 rfl rfl
        replace w := w.iload (q := 199) (v := c_x1) at_197 rfl rfl
        replace w := w.iload (q := 201) (v := c_x2) at_199 rfl rfl
        obtain ⟨z252, hz252⟩ : ∃ z : Int32, c_x1 + c_x2 = z := ⟨_, rfl⟩
        replace w := w.iadd (q := 202) at_201 hz252 rfl
        have fz252 := own_add hz252 (by omega) (by omega) (by omega) (by omega)
        rcases w.icmpGe (q := 215) (q' := 205) (xi := i.toInt) (yi := z252.toInt) at_202 rfl rfl (by decide) (by decide) rfl with ⟨hc202, w⟩ | ⟨hc202, w⟩
        · replace w := w.iload (q := 217) (v := i) at_215 rfl rfl
          replace w := w.iload (q := 219) (v := c_x1) at_217 rfl rfl
          replace w := w.iload (q := 221) (v := c_x2) at_219 rfl rfl
          obtain ⟨z253, hz253⟩ : ∃ z : Int32, c_x1 + c_x2 = z := ⟨_, rfl⟩
          replace w := w.iadd (q := 222) at_221 hz253 rfl
          have fz253 := own_add hz253 (by omega) (by omega) (by omega) (by omega)
          replace w := w.iload (q := 224) (v := c_x3) at_222 rfl rfl
          obtain ⟨z254, hz254⟩ : ∃ z : Int32, z253 + c_x3 = z := ⟨_, rfl⟩
          replace w := w.iadd (q := 225) at_224 hz254 rfl
          have fz254 := own_add hz254 (by omega) (by omega) (by omega) (by omega)
          rcases w.icmpGe (q := 241) (q' := 228) (xi := i.toInt) (yi := z254.toInt) at_225 rfl rfl (by decide) (by decide) rfl with ⟨hc225, w⟩ | ⟨hc225, w⟩
          · replace w := w.iconst (q := 242) (z := (3 : Int32)) at_241 (by decide) rfl
            replace w := w.istore (q := 244) (l' := #[.val (.int x0), .val (.int x1), .val (.int x2), .val (.int x3), .val (.int x4), .val (.int x5), .val (.int (4 : Int32)), .val (.int c_x1), .val (.int c_x2), .val (.int c_x3), .val (.int c_x4), .val (.ref a), .val (.int z250), .val (.int i), .val (.int (3 : Int32)), .unset, .unset]) at_242 rfl rfl
            replace w := w.iload (q := 246) (v := c_x1) at_244 rfl rfl
            replace w := w.iload (q := 248) (v := c_x2) at_246 rfl rfl
            obtain ⟨z255, hz255⟩ : ∃ z : Int32, c_x1 + c_x2 = z := ⟨_, rfl⟩
            replace w := w.iadd (q := 249) at_248 hz255 rfl
            have fz255 := own_add hz255 (by omega) (by omega) (by omega) (by omega)
            replace w := w.iload (q := 251) (v := c_x3) at_249 rfl rfl
            obtain ⟨z256, hz256⟩ : ∃ z : Int32, z255 + c_x3 = z := ⟨_, rfl⟩
            replace w := w.iadd (q := 252) at_251 hz256 rfl
            have fz256 := own_add hz256 (by omega) (by omega) (by omega) (by omega)
            replace w := w.istore (q := 254) (l' := #[.val (.int x0), .val (.int x1), .val (.int x2), .val (.int x3), .val (.int x4), .val (.int x5), .val (.int (4 : Int32)), .val (.int c_x1), .val (.int c_x2), .val (.int c_x3), .val (.int c_x4), .val (.ref a), .val (.int z250), .val (.int i), .val (.int (3 : Int32)), .val (.int z256), .unset]) at_252 rfl rfl
            replace w := w.aload (q := 256) (v := (.ref a)) at_254 rfl rfl rfl
            replace w := w.iload (q := 258) (v := i) at_256 rfl rfl
            obtain ⟨_, h257, ⟨rr, bb, rfl, S, hrr⟩, w⟩ := w.callV (a := a) (y := (⟨"com/example/lucky_fork/luckyfork/model/GroupSums", "findByIndex", "(I)I"⟩ : MethodName)) (argsL := [(.int i)]) (rest := []) (own_find_4 l Z a0 hw _ n0 S.z0 a r c p (2 : Int32) (0 : Int32) (0 : Int32) (0 : Int32) (0 : Int32) s1 s2 s3 c_x1 c_x2 c_x3 c_x4 (4 : Int32) (5 : Int32) (0 : Int32) (0 : Int32) (0 : Int32) (0 : Int32) (0 : Int32) (0 : Int32) i S ⟨by omega, by omega⟩ ⟨by omega, by omega⟩ ⟨by omega, by omega⟩) (S.1.1) (hw _ (List.mem_of_getElem? (i := 74) rfl)) (hw _ (List.mem_of_getElem? (i := 75) rfl)) (hw _ (List.mem_of_getElem? (i := 77) rfl)) (hw _ (List.mem_of_getElem? (i := 76) rfl)) (hw _ (List.mem_of_getElem? (i := 6) rfl)) (hw _ (List.mem_of_getElem? (i := 78) rfl)) (by decide) at_258 (lenOf pd_0 rfl) rfl rfl (by decide) (W := 0) (Nat.le_of_eq rfl) (by decide) (by decide) (by decide) (q := 261) rfl
            replace w := w [(.int rr)] rfl
            replace w := w.istore (q := 263) (l' := #[.val (.int x0), .val (.int x1), .val (.int x2), .val (.int x3), .val (.int x4), .val (.int x5), .val (.int (4 : Int32)), .val (.int c_x1), .val (.int c_x2), .val (.int c_x3), .val (.int c_x4), .val (.ref a), .val (.int z250), .val (.int i), .val (.int (3 : Int32)), .val (.int z256), .val (.int rr)]) at_261 rfl rfl
            replace w := w.iload (q := 265) (v := rr) at_263 rfl rfl
            replace w := w.iload (q := 267) (v := (3 : Int32)) at_265 rfl rfl
            rcases w.icmpNe (q := 284) (q' := 270) (xi := rr.toInt) (yi := 3) at_267 rfl rfl (by decide) (by decide) rfl with ⟨hc267, w⟩ | ⟨hc267, w⟩
            · replace w := w.iconst (q := 285) (z := (0 : Int32)) at_284 (by decide) rfl
              exfalso; omega
            · replace w := w.aload (q := 272) (v := (.ref a)) at_270 rfl rfl rfl
              obtain ⟨_, h258, ⟨rfl, S⟩, w⟩ := w.callV (a := a) (y := (⟨"com/example/lucky_fork/luckyfork/model/GroupSums", "countBefore", "()I"⟩ : MethodName)) (argsL := []) (rest := []) (own_cb_4 l Z a0 hw _ n0 S.z0 a r c p (2 : Int32) (0 : Int32) (0 : Int32) bb (0 : Int32) s1 s2 s3 c_x1 c_x2 c_x3 c_x4 (4 : Int32) (5 : Int32) (0 : Int32) (0 : Int32) (0 : Int32) (0 : Int32) (0 : Int32) (0 : Int32)  S ) (S.1.1) (hw _ (List.mem_of_getElem? (i := 81) rfl)) (hw _ (List.mem_of_getElem? (i := 82) rfl)) (hw _ (List.mem_of_getElem? (i := 84) rfl)) (hw _ (List.mem_of_getElem? (i := 83) rfl)) (hw _ (List.mem_of_getElem? (i := 6) rfl)) (hw _ (List.mem_of_getElem? (i := 85) rfl)) (by decide) at_272 (lenOf pd_6 rfl) rfl rfl (by decide) (W := 0) (Nat.le_of_eq rfl) (by decide) (by decide) (by decide) (q := 275) rfl
              replace w := w [(.int bb)] rfl
              replace w := w.iload (q := 277) (v := z256) at_275 rfl rfl
              rcases w.icmpNe (q := 284) (q' := 280) (xi := bb.toInt) (yi := z256.toInt) at_277 rfl rfl (by decide) (by decide) rfl with ⟨hc277, w⟩ | ⟨hc277, w⟩
              · replace w := w.iconst (q := 285) (z := (0 : Int32)) at_284 (by decide) rfl
                exfalso; omega
              · replace w := w.iconst (q := 281) (z := (1 : Int32)) at_280 (by decide) rfl
                replace w := w.goto (q := 285) at_281 (by decide) (by decide)
                exact w.retZ at_285 (z := 1) (by decide) rfl (by decide) (by decide)
          · replace w := w.iconst (q := 229) (z := (2 : Int32)) at_228 (by decide) rfl
            replace w := w.istore (q := 231) (l' := #[.val (.int x0), .val (.int x1), .val (.int x2), .val (.int x3), .val (.int x4), .val (.int x5), .val (.int (4 : Int32)), .val (.int c_x1), .val (.int c_x2), .val (.int c_x3), .val (.int c_x4), .val (.ref a), .val (.int z250), .val (.int i), .val (.int (2 : Int32)), .unset, .unset]) at_229 rfl rfl
            replace w := w.iload (q := 233) (v := c_x1) at_231 rfl rfl
            replace w := w.iload (q := 235) (v := c_x2) at_233 rfl rfl
            obtain ⟨z259, hz259⟩ : ∃ z : Int32, c_x1 + c_x2 = z := ⟨_, rfl⟩
            replace w := w.iadd (q := 236) at_235 hz259 rfl
            have fz259 := own_add hz259 (by omega) (by omega) (by omega) (by omega)
            replace w := w.istore (q := 238) (l' := #[.val (.int x0), .val (.int x1), .val (.int x2), .val (.int x3), .val (.int x4), .val (.int x5), .val (.int (4 : Int32)), .val (.int c_x1), .val (.int c_x2), .val (.int c_x3), .val (.int c_x4), .val (.ref a), .val (.int z250), .val (.int i), .val (.int (2 : Int32)), .val (.int z259), .unset]) at_236 rfl rfl
            replace w := w.goto (q := 254) at_238 (by decide) (by decide)
            replace w := w.aload (q := 256) (v := (.ref a)) at_254 rfl rfl rfl
            replace w := w.iload (q := 258) (v := i) at_256 rfl rfl
            obtain ⟨_, h260, ⟨rr, bb, rfl, S, hrr⟩, w⟩ := w.callV (a := a) (y := (⟨"com/example/lucky_fork/luckyfork/model/GroupSums", "findByIndex", "(I)I"⟩ : MethodName)) (argsL := [(.int i)]) (rest := []) (own_find_4 l Z a0 hw _ n0 S.z0 a r c p (2 : Int32) (0 : Int32) (0 : Int32) (0 : Int32) (0 : Int32) s1 s2 s3 c_x1 c_x2 c_x3 c_x4 (4 : Int32) (5 : Int32) (0 : Int32) (0 : Int32) (0 : Int32) (0 : Int32) (0 : Int32) (0 : Int32) i S ⟨by omega, by omega⟩ ⟨by omega, by omega⟩ ⟨by omega, by omega⟩) (S.1.1) (hw _ (List.mem_of_getElem? (i := 74) rfl)) (hw _ (List.mem_of_getElem? (i := 75) rfl)) (hw _ (List.mem_of_getElem? (i := 77) rfl)) (hw _ (List.mem_of_getElem? (i := 76) rfl)) (hw _ (List.mem_of_getElem? (i := 6) rfl)) (hw _ (List.mem_of_getElem? (i := 78) rfl)) (by decide) at_258 (lenOf pd_0 rfl) rfl rfl (by decide) (W := 0) (Nat.le_of_eq rfl) (by decide) (by decide) (by decide) (q := 261) rfl
            replace w := w [(.int rr)] rfl
            replace w := w.istore (q := 263) (l' := #[.val (.int x0), .val (.int x1), .val (.int x2), .val (.int x3), .val (.int x4), .val (.int x5), .val (.int (4 : Int32)), .val (.int c_x1), .val (.int c_x2), .val (.int c_x3), .val (.int c_x4), .val (.ref a), .val (.int z250), .val (.int i), .val (.int (2 : Int32)), .val (.int z259), .val (.int rr)]) at_261 rfl rfl
            replace w := w.iload (q := 265) (v := rr) at_263 rfl rfl
            replace w := w.iload (q := 267) (v := (2 : Int32)) at_265 rfl rfl
            rcases w.icmpNe (q := 284) (q' := 270) (xi := rr.toInt) (yi := 2) at_267 rfl rfl (by decide) (by decide) rfl with ⟨hc267, w⟩ | ⟨hc267, w⟩
            · replace w := w.iconst (q := 285) (z := (0 : Int32)) at_284 (by decide) rfl
              exfalso; omega
            · replace w := w.aload (q := 272) (v := (.ref a)) at_270 rfl rfl rfl
              obtain ⟨_, h261, ⟨rfl, S⟩, w⟩ := w.callV (a := a) (y := (⟨"com/example/lucky_fork/luckyfork/model/GroupSums", "countBefore", "()I"⟩ : MethodName)) (argsL := []) (rest := []) (own_cb_4 l Z a0 hw _ n0 S.z0 a r c p (2 : Int32) (0 : Int32) (0 : Int32) bb (0 : Int32) s1 s2 s3 c_x1 c_x2 c_x3 c_x4 (4 : Int32) (5 : Int32) (0 : Int32) (0 : Int32) (0 : Int32) (0 : Int32) (0 : Int32) (0 : Int32)  S ) (S.1.1) (hw _ (List.mem_of_getElem? (i := 81) rfl)) (hw _ (List.mem_of_getElem? (i := 82) rfl)) (hw _ (List.mem_of_getElem? (i := 84) rfl)) (hw _ (List.mem_of_getElem? (i := 83) rfl)) (hw _ (List.mem_of_getElem? (i := 6) rfl)) (hw _ (List.mem_of_getElem? (i := 85) rfl)) (by decide) at_272 (lenOf pd_6 rfl) rfl rfl (by decide) (W := 0) (Nat.le_of_eq rfl) (by decide) (by decide) (by decide) (q := 275) rfl
              replace w := w [(.int bb)] rfl
              replace w := w.iload (q := 277) (v := z259) at_275 rfl rfl
              rcases w.icmpNe (q := 284) (q' := 280) (xi := bb.toInt) (yi := z259.toInt) at_277 rfl rfl (by decide) (by decide) rfl with ⟨hc277, w⟩ | ⟨hc277, w⟩
              · replace w := w.iconst (q := 285) (z := (0 : Int32)) at_284 (by decide) rfl
                exfalso; omega
              · replace w := w.iconst (q := 281) (z := (1 : Int32)) at_280 (by decide) rfl
                replace w := w.goto (q := 285) at_281 (by decide) (by decide)
                exact w.retZ at_285 (z := 1) (by decide) rfl (by decide) (by decide)
        · replace w := w.iconst (q := 206) (z := (1 : Int32)) at_205 (by decide) rfl
          replace w := w.istore (q := 208) (l' := #[.val (.int x0), .val (.int x1), .val (.int x2), .val (.int x3), .val (.int x4), .val (.int x5), .val (.int (4 : Int32)), .val (.int c_x1), .val (.int c_x2), .val (.int c_x3), .val (.int c_x4), .val (.ref a), .val (.int z250), .val (.int i), .val (.int (1 : Int32)), .unset, .unset]) at_206 rfl rfl
          replace w := w.iload (q := 210) (v := c_x1) at_208 rfl rfl
          replace w := w.istore (q := 212) (l' := #[.val (.int x0), .val (.int x1), .val (.int x2), .val (.int x3), .val (.int x4), .val (.int x5), .val (.int (4 : Int32)), .val (.int c_x1), .val (.int c_x2), .val (.int c_x3), .val (.int c_x4), .val (.ref a), .val (.int z250), .val (.int i), .val (.int (1 : Int32)), .val (.int c_x1), .unset]) at_210 rfl rfl
          replace w := w.goto (q := 254) at_212 (by decide) (by decide)
          replace w := w.aload (q := 256) (v := (.ref a)) at_254 rfl rfl rfl
          replace w := w.iload (q := 258) (v := i) at_256 rfl rfl
          obtain ⟨_, h262, ⟨rr, bb, rfl, S, hrr⟩, w⟩ := w.callV (a := a) (y := (⟨"com/example/lucky_fork/luckyfork/model/GroupSums", "findByIndex", "(I)I"⟩ : MethodName)) (argsL := [(.int i)]) (rest := []) (own_find_4 l Z a0 hw _ n0 S.z0 a r c p (2 : Int32) (0 : Int32) (0 : Int32) (0 : Int32) (0 : Int32) s1 s2 s3 c_x1 c_x2 c_x3 c_x4 (4 : Int32) (5 : Int32) (0 : Int32) (0 : Int32) (0 : Int32) (0 : Int32) (0 : Int32) (0 : Int32) i S ⟨by omega, by omega⟩ ⟨by omega, by omega⟩ ⟨by omega, by omega⟩) (S.1.1) (hw _ (List.mem_of_getElem? (i := 74) rfl)) (hw _ (List.mem_of_getElem? (i := 75) rfl)) (hw _ (List.mem_of_getElem? (i := 77) rfl)) (hw _ (List.mem_of_getElem? (i := 76) rfl)) (hw _ (List.mem_of_getElem? (i := 6) rfl)) (hw _ (List.mem_of_getElem? (i := 78) rfl)) (by decide) at_258 (lenOf pd_0 rfl) rfl rfl (by decide) (W := 0) (Nat.le_of_eq rfl) (by decide) (by decide) (by decide) (q := 261) rfl
          replace w := w [(.int rr)] rfl
          replace w := w.istore (q := 263) (l' := #[.val (.int x0), .val (.int x1), .val (.int x2), .val (.int x3), .val (.int x4), .val (.int x5), .val (.int (4 : Int32)), .val (.int c_x1), .val (.int c_x2), .val (.int c_x3), .val (.int c_x4), .val (.ref a), .val (.int z250), .val (.int i), .val (.int (1 : Int32)), .val (.int c_x1), .val (.int rr)]) at_261 rfl rfl
          replace w := w.iload (q := 265) (v := rr) at_263 rfl rfl
          replace w := w.iload (q := 267) (v := (1 : Int32)) at_265 rfl rfl
          rcases w.icmpNe (q := 284) (q' := 270) (xi := rr.toInt) (yi := 1) at_267 rfl rfl (by decide) (by decide) rfl with ⟨hc267, w⟩ | ⟨hc267, w⟩
          · replace w := w.iconst (q := 285) (z := (0 : Int32)) at_284 (by decide) rfl
            exfalso; omega
          · replace w := w.aload (q := 272) (v := (.ref a)) at_270 rfl rfl rfl
            obtain ⟨_, h263, ⟨rfl, S⟩, w⟩ := w.callV (a := a) (y := (⟨"com/example/lucky_fork/luckyfork/model/GroupSums", "countBefore", "()I"⟩ : MethodName)) (argsL := []) (rest := []) (own_cb_4 l Z a0 hw _ n0 S.z0 a r c p (2 : Int32) (0 : Int32) (0 : Int32) bb (0 : Int32) s1 s2 s3 c_x1 c_x2 c_x3 c_x4 (4 : Int32) (5 : Int32) (0 : Int32) (0 : Int32) (0 : Int32) (0 : Int32) (0 : Int32) (0 : Int32)  S ) (S.1.1) (hw _ (List.mem_of_getElem? (i := 81) rfl)) (hw _ (List.mem_of_getElem? (i := 82) rfl)) (hw _ (List.mem_of_getElem? (i := 84) rfl)) (hw _ (List.mem_of_getElem? (i := 83) rfl)) (hw _ (List.mem_of_getElem? (i := 6) rfl)) (hw _ (List.mem_of_getElem? (i := 85) rfl)) (by decide) at_272 (lenOf pd_6 rfl) rfl rfl (by decide) (W := 0) (Nat.le_of_eq rfl) (by decide) (by decide) (by decide) (q := 275) rfl
            replace w := w [(.int bb)] rfl
            replace w := w.iload (q := 277) (v := c_x1) at_275 rfl rfl
            rcases w.icmpNe (q := 284) (q' := 280) (xi := bb.toInt) (yi := c_x1.toInt) at_277 rfl rfl (by decide) (by decide) rfl with ⟨hc277, w⟩ | ⟨hc277, w⟩
            · replace w := w.iconst (q := 285) (z := (0 : Int32)) at_284 (by decide) rfl
              exfalso; omega
            · replace w := w.iconst (q := 281) (z := (1 : Int32)) at_280 (by decide) rfl
              replace w := w.goto (q := 285) at_281 (by decide) (by decide)
              exact w.retZ at_285 (z := 1) (by decide) rfl (by decide) (by decide)
      · replace w := w.iconst (q := 187) (z := (0 : Int32)) at_186 (by decide) rfl
        replace w := w.istore (q := 189) (l' := #[.val (.int x0), .val (.int x1), .val (.int x2), .val (.int x3), .val (.int x4), .val (.int x5), .val (.int (4 : Int32)), .val (.int c_x1), .val (.int c_x2), .val (.int c_x3), .val (.int c_x4), .val (.ref a), .val (.int z250), .val (.int i), .val (.int (0 : Int32)), .unset, .unset]) at_187 rfl rfl
        replace w := w.iconst (q := 190) (z := (0 : Int32)) at_189 (by decide) rfl
        replace w := w.istore (q := 192) (l' := #[.val (.int x0), .val (.int x1), .val (.int x2), .val (.int x3), .val (.int x4), .val (.int x5), .val (.int (4 : Int32)), .val (.int c_x1), .val (.int c_x2), .val (.int c_x3), .val (.int c_x4), .val (.ref a), .val (.int z250), .val (.int i), .val (.int (0 : Int32)), .val (.int (0 : Int32)), .unset]) at_190 rfl rfl
        replace w := w.goto (q := 254) at_192 (by decide) (by decide)
        replace w := w.aload (q := 256) (v := (.ref a)) at_254 rfl rfl rfl
        replace w := w.iload (q := 258) (v := i) at_256 rfl rfl
        obtain ⟨_, h264, ⟨rr, bb, rfl, S, hrr⟩, w⟩ := w.callV (a := a) (y := (⟨"com/example/lucky_fork/luckyfork/model/GroupSums", "findByIndex", "(I)I"⟩ : MethodName)) (argsL := [(.int i)]) (rest := []) (own_find_4 l Z a0 hw _ n0 S.z0 a r c p (2 : Int32) (0 : Int32) (0 : Int32) (0 : Int32) (0 : Int32) s1 s2 s3 c_x1 c_x2 c_x3 c_x4 (4 : Int32) (5 : Int32) (0 : Int32) (0 : Int32) (0 : Int32) (0 : Int32) (0 : Int32) (0 : Int32) i S ⟨by omega, by omega⟩ ⟨by omega, by omega⟩ ⟨by omega, by omega⟩) (S.1.1) (hw _ (List.mem_of_getElem? (i := 74) rfl)) (hw _ (List.mem_of_getElem? (i := 75) rfl)) (hw _ (List.mem_of_getElem? (i := 77) rfl)) (hw _ (List.mem_of_getElem? (i := 76) rfl)) (hw _ (List.mem_of_getElem? (i := 6) rfl)) (hw _ (List.mem_of_getElem? (i := 78) rfl)) (by decide) at_258 (lenOf pd_0 rfl) rfl rfl (by decide) (W := 0) (Nat.le_of_eq rfl) (by decide) (by decide) (by decide) (q := 261) rfl
        replace w := w [(.int rr)] rfl
        replace w := w.istore (q := 263) (l' := #[.val (.int x0), .val (.int x1), .val (.int x2), .val (.int x3), .val (.int x4), .val (.int x5), .val (.int (4 : Int32)), .val (.int c_x1), .val (.int c_x2), .val (.int c_x3), .val (.int c_x4), .val (.ref a), .val (.int z250), .val (.int i), .val (.int (0 : Int32)), .val (.int (0 : Int32)), .val (.int rr)]) at_261 rfl rfl
        replace w := w.iload (q := 265) (v := rr) at_263 rfl rfl
        replace w := w.iload (q := 267) (v := (0 : Int32)) at_265 rfl rfl
        rcases w.icmpNe (q := 284) (q' := 270) (xi := rr.toInt) (yi := 0) at_267 rfl rfl (by decide) (by decide) rfl with ⟨hc267, w⟩ | ⟨hc267, w⟩
        · replace w := w.iconst (q := 285) (z := (0 : Int32)) at_284 (by decide) rfl
          exfalso; omega
        · replace w := w.aload (q := 272) (v := (.ref a)) at_270 rfl rfl rfl
          obtain ⟨_, h265, ⟨rfl, S⟩, w⟩ := w.callV (a := a) (y := (⟨"com/example/lucky_fork/luckyfork/model/GroupSums", "countBefore", "()I"⟩ : MethodName)) (argsL := []) (rest := []) (own_cb_4 l Z a0 hw _ n0 S.z0 a r c p (2 : Int32) (0 : Int32) (0 : Int32) bb (0 : Int32) s1 s2 s3 c_x1 c_x2 c_x3 c_x4 (4 : Int32) (5 : Int32) (0 : Int32) (0 : Int32) (0 : Int32) (0 : Int32) (0 : Int32) (0 : Int32)  S ) (S.1.1) (hw _ (List.mem_of_getElem? (i := 81) rfl)) (hw _ (List.mem_of_getElem? (i := 82) rfl)) (hw _ (List.mem_of_getElem? (i := 84) rfl)) (hw _ (List.mem_of_getElem? (i := 83) rfl)) (hw _ (List.mem_of_getElem? (i := 6) rfl)) (hw _ (List.mem_of_getElem? (i := 85) rfl)) (by decide) at_272 (lenOf pd_6 rfl) rfl rfl (by decide) (W := 0) (Nat.le_of_eq rfl) (by decide) (by decide) (by decide) (q := 275) rfl
          replace w := w [(.int bb)] rfl
          replace w := w.iload (q := 277) (v := (0 : Int32)) at_275 rfl rfl
          rcases w.icmpNe (q := 284) (q' := 280) (xi := bb.toInt) (yi := 0) at_277 rfl rfl (by decide) (by decide) rfl with ⟨hc277, w⟩ | ⟨hc277, w⟩
          · replace w := w.iconst (q := 285) (z := (0 : Int32)) at_284 (by decide) rfl
            exfalso; omega
          · replace w := w.iconst (q := 281) (z := (1 : Int32)) at_280 (by decide) rfl
            replace w := w.goto (q := 285) at_281 (by decide) (by decide)
            exact w.retZ at_285 (z := 1) (by decide) rfl (by decide) (by decide)
    · replace w := w.iconst (q := 168) (z := (1 : Int32)) at_167 (by decide) rfl
      exact w.retZ at_168 (z := 1) (by decide) rfl (by decide) (by decide)
set_option maxRecDepth 65536 in
set_option maxHeartbeats 40000000 in
theorem comes_1 {Post : Tables → Env → Array Value → State → Outcome → State → Prop} (hpost : ∀ tb e args s v u, (limb_1_1.after args s (.returned v) u = true ∧ limb_1_2.after args s (.returned v) u = true ∧ True) → FrameEnd s (.returned v) u (Jvm.fieldLocs frame_1_writes args s ++ Jvm.arrayLocs frame_1_arrays args s ++ Jvm.staticLocs frame_1_statics s) 24 192 → Post tb e args s (.returned v) u) :
    ArmFor flags0 classFile x code maxLocals ret World_1 tables_1 room_1 Calls_1 rest_1 Pre_1 Post := by
  intro l hfl _ _ p e ha hc hk s m args below hf hA hF happ hP
  obtain ⟨hcalls, hrest, hpre⟩ := hP
  obtain ⟨-, -, -, hnamed, -, -, -, hat⟩ := (Spec.applies_iff hf).mp happ
  obtain ⟨hg, hn⟩ := and_e (Cond.before_iff.mp (show (Jvm.Cond.and given_1 narrow_1).before args s = true from hpre))
  obtain ⟨hg0, hk0⟩ := and_e hg
  obtain ⟨g0, hk1⟩ := and_e hk0
  obtain ⟨g1, hk2⟩ := and_e hk1
  obtain ⟨g2, hk3⟩ := and_e hk2
  obtain ⟨g3, hk4⟩ := and_e hk3
  obtain ⟨g4, hk5⟩ := and_e hk4
  obtain ⟨v0, v1, v2, v3, v4, v5, rfl⟩ : ∃ v0 v1 v2 v3 v4 v5 : Value, args = #[v0, v1, v2, v3, v4, v5] := by
    have hs : args.size = 6 := by simpa [Cond.value, given_1] using hg0
    obtain ⟨L⟩ := args
    match L, hs with
    | [v0, v1, v2, v3, v4, v5], _ => exact ⟨v0, v1, v2, v3, v4, v5, rfl⟩
  have hw := fun d (hd : d ∈ tables_1) => atoms_spec (ws := Jvm.Cond.code x code maxLocals ret :: tables_1) hat d (List.mem_cons_of_mem _ hd)
  obtain ⟨i0, e0⟩ := is_v g0
  obtain rfl : v0 = (.int i0) := Option.some.inj e0
  obtain ⟨i1, e1⟩ := is_v g1
  obtain rfl : v1 = (.int i1) := Option.some.inj e1
  obtain ⟨i2, e2⟩ := is_v g2
  obtain rfl : v2 = (.int i2) := Option.some.inj e2
  obtain ⟨i3, e3⟩ := is_v g3
  obtain rfl : v3 = (.int i3) := Option.some.inj e3
  obtain ⟨i4, e4⟩ := is_v g4
  obtain rfl : v4 = (.int i4) := Option.some.inj e4
  obtain ⟨i5, e5⟩ := is_v hk5
  obtain rfl : v5 = (.int i5) := Option.some.inj e5
  obtain ⟨n, o, h1, h2, h3, _, L, rfl, ⟨hv, N⟩, hq⟩ := own_law l s _ hw s.heap s.heap.size (Nat.le_refl _) i0 i1 i2 i3 i4 i5  tables_1 p e ha hc hk s m _ below hf ((Spec.applies_iff_loose hf).mp happ).1 ⟨rfl, State.Warmed39.refl s, rfl⟩ trivial
  subst hv
  refine ⟨n, _, h1, h2, h3, hpost _ _ _ _ _ _ ⟨Cond.after_iff.mpr rfl, Cond.after_iff.mpr (eq_i res_at (Term.int_eval (1)) rfl), trivial⟩ ⟨hq.1, hq.2.1, (hq.2.2.sift fun y hy => Or.inr (N y hy)).mono (by decide) (by decide)⟩⟩
theorem main_1_1 : Claimed_1_1 := comes_1 fun _ _ _ _ _ _ h hF => ⟨h.1, hF⟩
theorem main_1_2 : Claimed_1_2 := comes_1 fun _ _ _ _ _ _ h hF => ⟨h.2.1, hF⟩
end Jvm.Pilot.@@N@@
namespace Jvm.Pilot.@@N@@
open Jvm Jvm.ClassFile Sem Op Lib Jvm.Free Jvm.Stand Jvm.Pilot.@@N@@.Jvm.D
/-! MADE BY PROGRAM (witnessworld.py) out of the Statement's table words and the real class files: 17 classes; the members and pool entries that the words name. The judged class is class 1, her method 2. -/
namespace start1
open Jvm.ClassFile
def u (s : String) : CpInfo := .utf8 (stringToUtf16 s)
/-- a pool by its gaps: so many unusable entries, then the entry; so many at the end -/
def gap : Nat → List CpInfo → List CpInfo
  | 0, r => r
  | n + 1, r => .unusable :: gap n r
def poolList (es : List (Nat × CpInfo)) (last : Nat) : List CpInfo := es.foldr (fun e r => gap e.1 (e.2 :: r)) (gap last [])
def pool (es : List (Nat × CpInfo)) (last : Nat) : Array CpInfo := ⟨poolList es last⟩
def fileOf (pool : Array CpInfo) (this : Nat) (attrs : Array Attribute := #[]) (ms : Array MethodInfo := #[]) (fl : Nat := 33) (sup : Nat := 0) (ifs : Array Nat := #[]) (fds : Array FieldInfo := #[]) : ClassFile where
  minorVersion := 0
  majorVersion := 65
  constantPool := pool
  accessFlags := fl
  thisClass := this
  superClass := sup
  interfaces := ifs
  fields := fds
  methods := ms
  attributes := attrs
def plain (name : String) (sup : Option ClassId) : Class where
  name := name
  kind := .ordinary
  loader := none
  accessFlags := 33
  super := sup
  interfaces := #[]
  cf := none
  fields := #[]
  methods := #[]
  instanceTypes := #[]
  staticTypes := #[]
  resolved := #[]
  callSites := []
  init := .initialized
  statics := none
  mirror := none

def pool0 : Array CpInfo := pool [(5, u "<init>"), (0, u "()V"), (1, .class_ 10), (1, u "java/lang/Object")] 113

def k0c0 : Code := { maxStack := 0, maxLocals := 1, code := object_method_1_code, exceptionTable := #[], attributes := #[] }
def k0m0 : Method := { name := "<init>", desc := "()V", sig := { parameters := [], returnType := none }, accessFlags := 1, code := some k0c0 }
/-- java/lang/Object -/
def k0 : Class := { plain "java/lang/Object" none with
  accessFlags := 33
  interfaces := #[]
  cf := some (fileOf pool0 8 #[] #[{ accessFlags := 1, nameIndex := 5, descriptorIndex := 6, attributes := #[] }] 33 0 #[] #[])
  fields := #[]
  methods := #[k0m0]
  instanceTypes := #[]
  staticTypes := #[]
  resolved := Array.replicate 124 none
  statics := none }

def pool1 : Array CpInfo := pool [(2, .class_ 4), (0, .nameAndType 5 6), (0, u "java/lang/Object"), (0, u "<init>"), (0, u "()V"), (0, .integer 1048575), (0, .methodref 9 10), (0, .class_ 11), (0, .nameAndType 12 13), (0, u "com/example/lucky_fork/luckyfork/model/GroupSumsFindByIndexPinLaw"), (0, u "cnt"), (0, u "(I)I"), (0, .class_ 15), (0, u "com/example/lucky_fork/luckyfork/model/GroupSums"), (0, .methodref 14 3), (0, .methodref 14 18), (0, .nameAndType 19 20), (0, u "clear"), (0, u "(I)V"), (0, .methodref 14 22), (0, .nameAndType 23 24), (0, u "set"), (0, u "(IDI)V"), (0, .methodref 14 26), (0, .nameAndType 27 6), (0, u "settle"), (0, .methodref 14 29), (0, .nameAndType 30 31), (0, u "size"), (0, u "()I"), (0, .integer 2147483647), (0, .methodref 14 34), (0, .nameAndType 35 13), (0, u "findByIndex"), (0, .methodref 14 37), (0, .nameAndType 38 31), (0, u "countBefore"), (3, u "law"), (0, u "(IIIIII)Z")] 2

def k1m0 : Method := { name := "<init>", desc := "()V", sig := { parameters := [], returnType := none }, accessFlags := 1, code := none }
def k1c1 : Code := { maxStack := 2, maxLocals := 1, code := method_2_code, exceptionTable := #[], attributes := #[] }
def k1m1 : Method := { name := "cnt", desc := "(I)I", sig := { parameters := [.int], returnType := some .int }, accessFlags := 10, code := some k1c1 }
def k1c2 : Code := { maxStack := 5, maxLocals := 17, code := code, exceptionTable := #[], attributes := #[] }
def k1m2 : Method := { name := "law", desc := "(IIIIII)Z", sig := { parameters := [.int, .int, .int, .int, .int, .int], returnType := some .boolean }, accessFlags := 9, code := some k1c2 }
/-- com/example/lucky_fork/luckyfork/model/GroupSumsFindByIndexPinLaw -/
def k1 : Class := { plain "com/example/lucky_fork/luckyfork/model/GroupSumsFindByIndexPinLaw" (some 0) with
  accessFlags := 49
  interfaces := #[]
  cf := some (fileOf pool1 9 #[] #[{ accessFlags := 1, nameIndex := 5, descriptorIndex := 6, attributes := #[] }, { accessFlags := 10, nameIndex := 12, descriptorIndex := 13, attributes := #[] }, { accessFlags := 9, nameIndex := 42, descriptorIndex := 43, attributes := #[] }] 49 2 #[] #[])
  fields := #[]
  methods := #[k1m0, k1m1, k1m2]
  instanceTypes := #[]
  staticTypes := #[]
  resolved := Array.replicate 46 none
  statics := none }

def pool2 : Array CpInfo := pool [(1, .methodref 2 3), (0, .class_ 4), (0, .nameAndType 5 6), (0, u "java/lang/Object"), (0, u "<init>"), (0, u "()V"), (0, .fieldref 8 9), (0, .class_ 10), (0, .nameAndType 11 12), (0, u "com/example/lucky_fork/luckyfork/model/GroupSums"), (0, u "leaves"), (0, u "I"), (0, .fieldref 8 14), (0, .nameAndType 15 16), (0, u "rates"), (0, u "[D"), (0, .fieldref 8 18), (0, .nameAndType 19 20), (0, u "counts"), (0, u "[I"), (0, .fieldref 8 22), (0, .nameAndType 23 20), (0, u "pending"), (1, .fieldref 8 26), (0, .nameAndType 27 12), (0, u "depth"), (7, .methodref 36 37), (0, .class_ 38), (0, .nameAndType 39 40), (0, u "java/lang/Integer"), (0, u "highestOneBit"), (0, u "(I)I"), (0, .methodref 36 42), (0, .nameAndType 43 40), (0, u "numberOfTrailingZeros"), (0, .methodref 45 46), (0, .class_ 47), (0, .nameAndType 48 49), (0, u "java/util/Arrays"), (0, u "fill"), (0, u "([DD)V"), (0, .methodref 45 51), (0, .nameAndType 48 52), (0, u "([II)V"), (0, .fieldref 8 54), (0, .nameAndType 55 12), (0, u "pendingCount"), (0, .fieldref 8 57), (0, .nameAndType 58 59), (0, u "rebuild"), (0, u "Z"), (4, .fieldref 8 65), (0, .nameAndType 66 12), (0, u "countBefore"), (2, u "rateBefore"), (0, u "D"), (0, .methodref 8 72), (0, .nameAndType 73 74), (0, u "addUp"), (0, u "(I)V"), (4, u "clear"), (1, u "set"), (0, u "(IDI)V"), (2, u "size"), (0, u "()I"), (0, u "findByIndex"), (2, u "settle")] 2

def k2c0 : Code := { maxStack := 2, maxLocals := 1, code := prog_120_method_1_code, exceptionTable := #[], attributes := #[] }
def k2m0 : Method := { name := "<init>", desc := "()V", sig := { parameters := [], returnType := none }, accessFlags := 0, code := some k2c0 }
def k2c1 : Code := { maxStack := 3, maxLocals := 3, code := prog_120_method_3_code, exceptionTable := #[], attributes := #[] }
def k2m1 : Method := { name := "clear", desc := "(I)V", sig := { parameters := [.int], returnType := none }, accessFlags := 0, code := some k2c1 }
def k2c2 : Code := { maxStack := 5, maxLocals := 6, code := prog_120_method_4_code, exceptionTable := #[], attributes := #[] }
def k2m2 : Method := { name := "set", desc := "(IDI)V", sig := { parameters := [.int, .double, .int], returnType := none }, accessFlags := 0, code := some k2c2 }
def k2c3 : Code := { maxStack := 2, maxLocals := 1, code := prog_120_method_6_code, exceptionTable := #[], attributes := #[] }
def k2m3 : Method := { name := "size", desc := "()I", sig := { parameters := [], returnType := some .int }, accessFlags := 0, code := some k2c3 }
def k2c4 : Code := { maxStack := 4, maxLocals := 5, code := prog_120_method_7_code, exceptionTable := #[], attributes := #[] }
def k2m4 : Method := { name := "findByIndex", desc := "(I)I", sig := { parameters := [.int], returnType := some .int }, accessFlags := 0, code := some k2c4 }
def k2c5 : Code := { maxStack := 1, maxLocals := 1, code := prog_120_method_10_code, exceptionTable := #[], attributes := #[] }
def k2m5 : Method := { name := "countBefore", desc := "()I", sig := { parameters := [], returnType := some .int }, accessFlags := 0, code := some k2c5 }
def k2c6 : Code := { maxStack := 2, maxLocals := 3, code := prog_120_method_11_code, exceptionTable := #[], attributes := #[] }
def k2m6 : Method := { name := "settle", desc := "()V", sig := { parameters := [], returnType := none }, accessFlags := 0, code := some k2c6 }
def k2c7 : Code := { maxStack := 7, maxLocals := 2, code := prog_120_method_12_code, exceptionTable := #[], attributes := #[] }
def k2m7 : Method := { name := "addUp", desc := "(I)V", sig := { parameters := [.int], returnType := none }, accessFlags := 2, code := some k2c7 }
/-- com/example/lucky_fork/luckyfork/model/GroupSums -/
def k2 : Class := { plain "com/example/lucky_fork/luckyfork/model/GroupSums" (some 0) with
  accessFlags := 48
  interfaces := #[]
  cf := some (fileOf pool2 8 #[] #[{ accessFlags := 0, nameIndex := 5, descriptorIndex := 6, attributes := #[] }, { accessFlags := 0, nameIndex := 79, descriptorIndex := 74, attributes := #[] }, { accessFlags := 0, nameIndex := 81, descriptorIndex := 82, attributes := #[] }, { accessFlags := 0, nameIndex := 85, descriptorIndex := 86, attributes := #[] }, { accessFlags := 0, nameIndex := 87, descriptorIndex := 40, attributes := #[] }, { accessFlags := 0, nameIndex := 66, descriptorIndex := 86, attributes := #[] }, { accessFlags := 0, nameIndex := 90, descriptorIndex := 6, attributes := #[] }, { accessFlags := 2, nameIndex := 73, descriptorIndex := 74, attributes := #[] }] 48 2 #[] #[{ accessFlags := 2, nameIndex := 11, descriptorIndex := 12, attributes := #[] }, { accessFlags := 2, nameIndex := 27, descriptorIndex := 12, attributes := #[] }, { accessFlags := 2, nameIndex := 15, descriptorIndex := 16, attributes := #[] }, { accessFlags := 2, nameIndex := 19, descriptorIndex := 20, attributes := #[] }, { accessFlags := 2, nameIndex := 23, descriptorIndex := 20, attributes := #[] }, { accessFlags := 2, nameIndex := 55, descriptorIndex := 12, attributes := #[] }, { accessFlags := 2, nameIndex := 58, descriptorIndex := 59, attributes := #[] }, { accessFlags := 2, nameIndex := 69, descriptorIndex := 70, attributes := #[] }, { accessFlags := 2, nameIndex := 66, descriptorIndex := 12, attributes := #[] }])
  fields := #[{ name := "leaves", type := .int, accessFlags := 2, slot := 0, constantValue := 0 }, { name := "depth", type := .int, accessFlags := 2, slot := 1, constantValue := 0 }, { name := "rates", type := (.array .double), accessFlags := 2, slot := 2, constantValue := 0 }, { name := "counts", type := (.array .int), accessFlags := 2, slot := 3, constantValue := 0 }, { name := "pending", type := (.array .int), accessFlags := 2, slot := 4, constantValue := 0 }, { name := "pendingCount", type := .int, accessFlags := 2, slot := 5, constantValue := 0 }, { name := "rebuild", type := .boolean, accessFlags := 2, slot := 6, constantValue := 0 }, { name := "rateBefore", type := .double, accessFlags := 2, slot := 7, constantValue := 0 }, { name := "countBefore", type := .int, accessFlags := 2, slot := 8, constantValue := 0 }]
  methods := #[k2m0, k2m1, k2m2, k2m3, k2m4, k2m5, k2m6, k2m7]
  instanceTypes := #[.int, .int, (.array .double), (.array .int), (.array .int), .int, .boolean, .double, .int]
  staticTypes := #[]
  resolved := Array.replicate 93 none
  statics := none }

def pool3 : Array CpInfo := pool [(2, .class_ 4), (1, u "java/lang/Object"), (0, u "<init>"), (0, u "()V"), (7, .class_ 16), (1, u "java/util/Arrays"), (57, .class_ 76), (1, u "java/util/Arrays$NaturalOrder"), (36, .class_ 115), (1, u "java/util/Arrays$LegacyMergeSort"), (1, u "Z"), (257, .class_ 376), (0, u "java/util/Arrays$ArrayList"), (68, u "$assertionsDisabled"), (269, u "MIN_ARRAY_SORT_GRAN"), (0, u "I"), (2, u "INSERTIONSORT_THRESHOLD"), (120, u "fill"), (4, u "([II)V"), (8, u "([DD)V"), (120, .class_ 976), (0, u "java/util/Arrays$ArrayItr")] 52

def k3m0 : Method := { name := "<init>", desc := "()V", sig := { parameters := [], returnType := none }, accessFlags := 2, code := none }
def k3c1 : Code := { maxStack := 3, maxLocals := 4, code := jdk_65_method_103_code, exceptionTable := #[], attributes := #[] }
def k3m1 : Method := { name := "fill", desc := "([II)V", sig := { parameters := [(.array .int), .int], returnType := none }, accessFlags := 9, code := some k3c1 }
def k3c2 : Code := { maxStack := 4, maxLocals := 5, code := jdk_65_method_113_code, exceptionTable := #[], attributes := #[] }
def k3m2 : Method := { name := "fill", desc := "([DD)V", sig := { parameters := [(.array .double), .double], returnType := none }, accessFlags := 9, code := some k3c2 }
/-- java/util/Arrays -/
def k3 : Class := { plain "java/util/Arrays" (some 0) with
  accessFlags := 49
  interfaces := #[]
  cf := some (fileOf pool3 14 #[.nestMembers #[975, 375, 113, 74]] #[{ accessFlags := 2, nameIndex := 5, descriptorIndex := 6, attributes := #[] }, { accessFlags := 9, nameIndex := 840, descriptorIndex := 845, attributes := #[] }, { accessFlags := 9, nameIndex := 840, descriptorIndex := 854, attributes := #[] }] 49 2 #[] #[{ accessFlags := 26, nameIndex := 715, descriptorIndex := 716, attributes := #[] }, { accessFlags := 26, nameIndex := 719, descriptorIndex := 716, attributes := #[] }, { accessFlags := 4120, nameIndex := 445, descriptorIndex := 117, attributes := #[] }])
  fields := #[{ name := "MIN_ARRAY_SORT_GRAN", type := .int, accessFlags := 26, slot := 0, constantValue := 0 }, { name := "INSERTIONSORT_THRESHOLD", type := .int, accessFlags := 26, slot := 1, constantValue := 0 }, { name := "$assertionsDisabled", type := .boolean, accessFlags := 4120, slot := 2, constantValue := 0 }]
  methods := #[k3m0, k3m1, k3m2]
  instanceTypes := #[]
  staticTypes := #[.int, .int, .boolean]
  resolved := Array.replicate 1029 none
  statics := none }

def pool4 : Array CpInfo := pool [(1, .class_ 2), (0, u "java/io/Serializable"), (0, .class_ 4), (0, u "java/lang/Object")] 2

/-- java/io/Serializable -/
def k4 : Class := { plain "java/io/Serializable" (some 0) with
  accessFlags := 1537
  interfaces := #[]
  cf := some (fileOf pool4 1 #[] #[] 1537 3 #[] #[])
  fields := #[]
  methods := #[]
  instanceTypes := #[]
  staticTypes := #[]
  resolved := Array.replicate 7 none
  statics := none }

def pool5 : Array CpInfo := pool [(2, .class_ 4), (1, u "java/lang/Object"), (0, u "<init>"), (0, u "()V"), (1, .class_ 10), (1, u "java/lang/Number"), (2, .class_ 14), (0, u "java/io/Serializable"), (0, u "serialVersionUID"), (0, u "J")] 20

def k5m0 : Method := { name := "<init>", desc := "()V", sig := { parameters := [], returnType := none }, accessFlags := 1, code := none }
/-- java/lang/Number -/
def k5 : Class := { plain "java/lang/Number" (some 0) with
  accessFlags := 1057
  interfaces := #[4]
  cf := some (fileOf pool5 8 #[] #[{ accessFlags := 1, nameIndex := 5, descriptorIndex := 6, attributes := #[] }] 1057 2 #[13] #[{ accessFlags := 26, nameIndex := 15, descriptorIndex := 16, attributes := #[] }])
  fields := #[{ name := "serialVersionUID", type := .long, accessFlags := 26, slot := 0, constantValue := 0 }]
  methods := #[k5m0]
  instanceTypes := #[]
  staticTypes := #[.long]
  resolved := Array.replicate 37 none
  statics := none }

def pool6 : Array CpInfo := pool [(1, .class_ 2), (0, u "java/lang/Comparable"), (0, .class_ 4), (0, u "java/lang/Object")] 7

/-- java/lang/Comparable -/
def k6 : Class := { plain "java/lang/Comparable" (some 0) with
  accessFlags := 1537
  interfaces := #[]
  cf := some (fileOf pool6 1 #[] #[] 1537 3 #[] #[])
  fields := #[]
  methods := #[]
  instanceTypes := #[]
  staticTypes := #[]
  resolved := Array.replicate 12 none
  statics := none }

def pool7 : Array CpInfo := pool [(1, .class_ 2), (0, u "java/lang/constant/Constable"), (0, .class_ 4), (0, u "java/lang/Object")] 6

/-- java/lang/constant/Constable -/
def k7 : Class := { plain "java/lang/constant/Constable" (some 0) with
  accessFlags := 1537
  interfaces := #[]
  cf := some (fileOf pool7 1 #[] #[] 1537 3 #[] #[])
  fields := #[]
  methods := #[]
  instanceTypes := #[]
  staticTypes := #[]
  resolved := Array.replicate 11 none
  statics := none }

def pool8 : Array CpInfo := pool [(1, .class_ 2), (0, u "java/lang/constant/ConstantDesc"), (0, .class_ 4), (0, u "java/lang/Object")] 32

/-- java/lang/constant/ConstantDesc -/
def k8 : Class := { plain "java/lang/constant/ConstantDesc" (some 0) with
  accessFlags := 1537
  interfaces := #[]
  cf := some (fileOf pool8 1 #[] #[] 1537 3 #[] #[])
  fields := #[]
  methods := #[]
  instanceTypes := #[]
  staticTypes := #[]
  resolved := Array.replicate 37 none
  statics := none }

def pool9 : Array CpInfo := pool [(1, .class_ 2), (0, u "java/lang/Integer"), (16, u "digits"), (0, u "[C"), (30, .methodref 1 52), (0, .nameAndType 53 54), (0, u "numberOfLeadingZeros"), (0, u "(I)I"), (30, u "DigitOnes"), (0, u "[B"), (2, u "DigitTens"), (37, .integer 2147483648), (61, .class_ 190), (0, u "java/lang/Integer$IntegerCache"), (3, u "I"), (8, .class_ 204), (0, u "java/lang/Number"), (2, u "value"), (56, .integer 65536), (37, u "TYPE"), (0, u "Ljava/lang/Class;"), (0, .class_ 305), (0, u "java/lang/Comparable"), (0, .class_ 307), (0, u "java/lang/constant/Constable"), (0, .class_ 309), (0, u "java/lang/constant/ConstantDesc"), (0, u "MIN_VALUE"), (1, u "MAX_VALUE"), (3, u "SIZE"), (1, u "BYTES"), (1, u "serialVersionUID"), (0, u "J"), (81, u "highestOneBit"), (2, u "numberOfTrailingZeros")] 46

def k9c0 : Code := { maxStack := 3, maxLocals := 1, code := jdk_33_method_45_code, exceptionTable := #[], attributes := #[] }
def k9m0 : Method := { name := "highestOneBit", desc := "(I)I", sig := { parameters := [.int], returnType := some .int }, accessFlags := 9, code := some k9c0 }
def k9c1 : Code := { maxStack := 3, maxLocals := 2, code := jdk_33_method_47_code, exceptionTable := #[], attributes := #[] }
def k9m1 : Method := { name := "numberOfLeadingZeros", desc := "(I)I", sig := { parameters := [.int], returnType := some .int }, accessFlags := 9, code := some k9c1 }
def k9c2 : Code := { maxStack := 3, maxLocals := 2, code := jdk_33_method_48_code, exceptionTable := #[], attributes := #[] }
def k9m2 : Method := { name := "numberOfTrailingZeros", desc := "(I)I", sig := { parameters := [.int], returnType := some .int }, accessFlags := 9, code := some k9c2 }
/-- java/lang/Integer -/
def k9 : Class := { plain "java/lang/Integer" (some 5) with
  accessFlags := 49
  interfaces := #[6, 7, 8]
  cf := some (fileOf pool9 1 #[.nestMembers #[189]] #[{ accessFlags := 9, nameIndex := 403, descriptorIndex := 54, attributes := #[] }, { accessFlags := 9, nameIndex := 53, descriptorIndex := 54, attributes := #[] }, { accessFlags := 9, nameIndex := 406, descriptorIndex := 54, attributes := #[] }] 49 203 #[304, 306, 308] #[{ accessFlags := 25, nameIndex := 310, descriptorIndex := 194, attributes := #[] }, { accessFlags := 25, nameIndex := 312, descriptorIndex := 194, attributes := #[] }, { accessFlags := 25, nameIndex := 302, descriptorIndex := 303, attributes := #[] }, { accessFlags := 24, nameIndex := 19, descriptorIndex := 20, attributes := #[] }, { accessFlags := 24, nameIndex := 89, descriptorIndex := 86, attributes := #[] }, { accessFlags := 24, nameIndex := 85, descriptorIndex := 86, attributes := #[] }, { accessFlags := 18, nameIndex := 207, descriptorIndex := 194, attributes := #[] }, { accessFlags := 25, nameIndex := 316, descriptorIndex := 194, attributes := #[] }, { accessFlags := 25, nameIndex := 318, descriptorIndex := 194, attributes := #[] }, { accessFlags := 26, nameIndex := 320, descriptorIndex := 321, attributes := #[] }])
  fields := #[{ name := "MIN_VALUE", type := .int, accessFlags := 25, slot := 0, constantValue := 0 }, { name := "MAX_VALUE", type := .int, accessFlags := 25, slot := 1, constantValue := 0 }, { name := "TYPE", type := (.object "java/lang/Class"), accessFlags := 25, slot := 2, constantValue := 0 }, { name := "digits", type := (.array .char), accessFlags := 24, slot := 3, constantValue := 0 }, { name := "DigitTens", type := (.array .byte), accessFlags := 24, slot := 4, constantValue := 0 }, { name := "DigitOnes", type := (.array .byte), accessFlags := 24, slot := 5, constantValue := 0 }, { name := "value", type := .int, accessFlags := 18, slot := 0, constantValue := 0 }, { name := "SIZE", type := .int, accessFlags := 25, slot := 6, constantValue := 0 }, { name := "BYTES", type := .int, accessFlags := 25, slot := 7, constantValue := 0 }, { name := "serialVersionUID", type := .long, accessFlags := 26, slot := 8, constantValue := 0 }]
  methods := #[k9m0, k9m1, k9m2]
  instanceTypes := #[.int]
  staticTypes := #[.int, .int, (.object "java/lang/Class"), (.array .char), (.array .byte), (.array .byte), .int, .int, .long]
  resolved := Array.replicate 453 none
  statics := none }

def pool10 : Array CpInfo := pool [(1, u "java/lang/Cloneable"), (0, .class_ 1), (0, u "java/lang/Object"), (0, .class_ 3)] 3

/-- java/lang/Cloneable -/
def k10 : Class := { plain "java/lang/Cloneable" (some 0) with
  accessFlags := 1537
  interfaces := #[]
  cf := some (fileOf pool10 2 #[] #[] 1537 4 #[] #[])
  fields := #[]
  methods := #[]
  instanceTypes := #[]
  staticTypes := #[]
  resolved := Array.replicate 8 none
  statics := none }

/-- the primitive byte -/
def k11 : Class := { plain "byte" none with kind := .primitive 'B', accessFlags := 0x411 }
/-- [B -/
def k12 : Class := { plain "[B" (some 0) with kind := .array 11 .byte, interfaces := #[10, 4], accessFlags := 1041 }

/-- the primitive double -/
def k13 : Class := { plain "double" none with kind := .primitive 'D', accessFlags := 0x411 }
/-- [D -/
def k14 : Class := { plain "[D" (some 0) with kind := .array 13 .double, interfaces := #[10, 4], accessFlags := 1041 }

/-- the primitive int -/
def k15 : Class := { plain "int" none with kind := .primitive 'I', accessFlags := 0x411 }
/-- [I -/
def k16 : Class := { plain "[I" (some 0) with kind := .array 15 .int, interfaces := #[10, 4], accessFlags := 1041 }

def heap : Heap := #[]
def classes : Array Class := #[k0, k1, k2, k3, k4, k5, k6, k7, k8, k9, k10, k11, k12, k13, k14, k15, k16]
def interned : List (Array UInt16 × Addr) := []
def slotsUsed : Nat := 0
def theMethod : MethodId := ⟨1, 2⟩
def args0 : Array Value := #[.int 1, .int 2, .int 5, .int 4, .int 3, .int 3]
def aboutOver (below : List Frame) : State where
  vm := { classes := classes, interned := interned.toArray }
  heap := heap
  slotsUsed := slotsUsed
  threads := #[{ frames := .invoking theMethod args0 :: below }]
def below0 : List Frame := [.native { method := ⟨0, 0⟩, args := #[] }]
def about1 : State := aboutOver below0
def p0 : Program := .bare "" "" ""
def e0 : Env := launch0.env 0 0 0
theorem w_frames : about1.frames = Frame.invoking theMethod args0 :: below0 := rfl
set_option maxRecDepth 65536 in
theorem w_args : argsFit about1.vm theMethod args0 = true := by decide +kernel
set_option maxRecDepth 65536 in
theorem w_heap : heapFits about1 = true := by decide +kernel
set_option maxRecDepth 65536 in
theorem w_runnable : about1.curStatus? = some .runnable := by decide +kernel
set_option maxRecDepth 65536 in
theorem w_alone : about1.alone = true := by decide +kernel
set_option maxRecDepth 65536 in
theorem w_named : about1.methodNamed? x = some theMethod := by decide +kernel
set_option maxRecDepth 65536 in
theorem w_hears : about1.hears theMethod below0 = true := by decide +kernel
set_option maxRecDepth 65536 in
theorem w_ripe : about1.ripe theMethod args0 below0 = true := by decide +kernel
theorem w_running : about1.status = .running := rfl
set_option maxRecDepth 65536 in
theorem w_room : about1.hasRoom e0.platform room_1 = true :=
  launch0.hasRoom_least _ room_1 (by decide +kernel) (by decide +kernel) (by decide +kernel) (by decide +kernel) (by decide +kernel) (by decide +kernel)
theorem allAtoms_all (ts : List Jvm.Cond) (a : Array Jvm.Value) (st : Jvm.State) : (allAtoms ts).before a st = ts.all (fun c => c.before a st) := by
  induction ts with
  | nil => rfl
  | cons c t ih =>
    show (Jvm.Cond.and c (allAtoms t)).before a st = _
    rw [Jvm.Cond.before_and, ih, List.all_cons]
def words1 : List Jvm.Cond := Jvm.Cond.code x code maxLocals ret :: tables_1
/-- a 'code' word, met by the world's own term for the bytes: nothing is compared byte by byte -/
theorem code_word {y : MethodName} {bytes : ByteArray} {mx : Nat} {rt : Option FieldType} {a : Array Value} {s : State} {m : MethodId} {meth : Method} {c : Code} (h1 : s.methodNamed? y = some m) (h2 : s.vm.method? m = some meth) (h3 : meth.code = some c) (h4 : c.code = bytes)
    (h5 : (c.maxLocals == mx && c.exceptionTable.isEmpty && decide (c.maxStack ≤ mostOperands) && decide (meth.sig.returnType = rt) && !meth.locks && decide (parseMethodDescriptor y.desc = some meth.sig)) = true) : (Jvm.Cond.code y bytes mx rt).before a s = true := by
  simp only [Bool.and_eq_true, beq_iff_eq, Bool.not_eq_true', decide_eq_true_eq] at h5
  obtain ⟨⟨⟨⟨⟨g1, g2⟩, g3⟩, g4⟩, g5⟩, g6⟩ := h5
  simp [Cond.before, Cond.holds, Cond.value, h1, h2, h3, h4, g1, g2, g3, g4, g5, g6]
def isCode : Jvm.Cond → Bool
  | .code _ _ _ _ => true
  | _ => false
theorem all_split {L : List Jvm.Cond} {P : Jvm.Cond → Bool} (h1 : L.all (fun c => isCode c || P c) = true) (h2 : ∀ c ∈ L.filter isCode, P c = true) : L.all P = true := by
  refine List.all_eq_true.mpr fun c hc => ?_
  have h := List.all_eq_true.mp h1 c hc
  rcases Bool.eq_false_or_eq_true (isCode c) with hi | hi
  · exact h2 c (List.mem_filter.mpr ⟨hc, hi⟩)
  · simpa [hi] using h
set_option maxRecDepth 65536 in
theorem w_c0 : (Jvm.Cond.code x code maxLocals ret).before args0 about1 = true := code_word (m := ⟨1, 2⟩) (meth := k1m2) (c := k1c2) (by decide +kernel) rfl rfl rfl (by decide +kernel)
set_option maxRecDepth 65536 in
theorem w_c1 : (Jvm.Cond.code ({ cls := "com/example/lucky_fork/luckyfork/model/GroupSumsFindByIndexPinLaw", name := "cnt", desc := "(I)I" } : Jvm.MethodName) method_2_code (1 : Nat) (Option.some Jvm.ClassFile.FieldType.int)).before args0 about1 = true := code_word (m := ⟨1, 1⟩) (meth := k1m1) (c := k1c1) (by decide +kernel) rfl rfl rfl (by decide +kernel)
set_option maxRecDepth 65536 in
theorem w_c2 : (Jvm.Cond.code ({ cls := "com/example/lucky_fork/luckyfork/model/GroupSums", name := "<init>", desc := "()V" } : Jvm.MethodName) prog_120_method_1_code (1 : Nat) (Option.none : Option Jvm.ClassFile.FieldType)).before args0 about1 = true := code_word (m := ⟨2, 0⟩) (meth := k2m0) (c := k2c0) (by decide +kernel) rfl rfl rfl (by decide +kernel)
set_option maxRecDepth 65536 in
theorem w_c3 : (Jvm.Cond.code ({ cls := "java/lang/Object", name := "<init>", desc := "()V" } : Jvm.MethodName) object_method_1_code (1 : Nat) (Option.none : Option Jvm.ClassFile.FieldType)).before args0 about1 = true := code_word (m := ⟨0, 0⟩) (meth := k0m0) (c := k0c0) (by decide +kernel) rfl rfl rfl (by decide +kernel)
set_option maxRecDepth 65536 in
theorem w_c4 : (Jvm.Cond.code ({ cls := "com/example/lucky_fork/luckyfork/model/GroupSums", name := "clear", desc := "(I)V" } : Jvm.MethodName) prog_120_method_3_code (3 : Nat) (Option.none : Option Jvm.ClassFile.FieldType)).before args0 about1 = true := code_word (m := ⟨2, 1⟩) (meth := k2m1) (c := k2c1) (by decide +kernel) rfl rfl rfl (by decide +kernel)
set_option maxRecDepth 65536 in
theorem w_c5 : (Jvm.Cond.code ({ cls := "java/util/Arrays", name := "fill", desc := "([DD)V" } : Jvm.MethodName) jdk_65_method_113_code (5 : Nat) (Option.none : Option Jvm.ClassFile.FieldType)).before args0 about1 = true := code_word (m := ⟨3, 2⟩) (meth := k3m2) (c := k3c2) (by decide +kernel) rfl rfl rfl (by decide +kernel)
set_option maxRecDepth 65536 in
theorem w_c6 : (Jvm.Cond.code ({ cls := "java/util/Arrays", name := "fill", desc := "([II)V" } : Jvm.MethodName) jdk_65_method_103_code (4 : Nat) (Option.none : Option Jvm.ClassFile.FieldType)).before args0 about1 = true := code_word (m := ⟨3, 1⟩) (meth := k3m1) (c := k3c1) (by decide +kernel) rfl rfl rfl (by decide +kernel)
set_option maxRecDepth 65536 in
theorem w_c7 : (Jvm.Cond.code ({ cls := "com/example/lucky_fork/luckyfork/model/GroupSums", name := "set", desc := "(IDI)V" } : Jvm.MethodName) prog_120_method_4_code (6 : Nat) (Option.none : Option Jvm.ClassFile.FieldType)).before args0 about1 = true := code_word (m := ⟨2, 2⟩) (meth := k2m2) (c := k2c2) (by decide +kernel) rfl rfl rfl (by decide +kernel)
set_option maxRecDepth 65536 in
theorem w_c8 : (Jvm.Cond.code ({ cls := "com/example/lucky_fork/luckyfork/model/GroupSums", name := "settle", desc := "()V" } : Jvm.MethodName) prog_120_method_11_code (3 : Nat) (Option.none : Option Jvm.ClassFile.FieldType)).before args0 about1 = true := code_word (m := ⟨2, 6⟩) (meth := k2m6) (c := k2c6) (by decide +kernel) rfl rfl rfl (by decide +kernel)
set_option maxRecDepth 65536 in
theorem w_c9 : (Jvm.Cond.code ({ cls := "com/example/lucky_fork/luckyfork/model/GroupSums", name := "size", desc := "()I" } : Jvm.MethodName) prog_120_method_6_code (1 : Nat) (Option.some Jvm.ClassFile.FieldType.int)).before args0 about1 = true := code_word (m := ⟨2, 3⟩) (meth := k2m3) (c := k2c3) (by decide +kernel) rfl rfl rfl (by decide +kernel)
set_option maxRecDepth 65536 in
theorem w_c10 : (Jvm.Cond.code ({ cls := "java/lang/Integer", name := "highestOneBit", desc := "(I)I" } : Jvm.MethodName) jdk_33_method_45_code (1 : Nat) (Option.some Jvm.ClassFile.FieldType.int)).before args0 about1 = true := code_word (m := ⟨9, 0⟩) (meth := k9m0) (c := k9c0) (by decide +kernel) rfl rfl rfl (by decide +kernel)
set_option maxRecDepth 65536 in
theorem w_c11 : (Jvm.Cond.code ({ cls := "java/lang/Integer", name := "numberOfLeadingZeros", desc := "(I)I" } : Jvm.MethodName) jdk_33_method_47_code (2 : Nat) (Option.some Jvm.ClassFile.FieldType.int)).before args0 about1 = true := code_word (m := ⟨9, 1⟩) (meth := k9m1) (c := k9c1) (by decide +kernel) rfl rfl rfl (by decide +kernel)
set_option maxRecDepth 65536 in
theorem w_c12 : (Jvm.Cond.code ({ cls := "java/lang/Integer", name := "numberOfTrailingZeros", desc := "(I)I" } : Jvm.MethodName) jdk_33_method_48_code (2 : Nat) (Option.some Jvm.ClassFile.FieldType.int)).before args0 about1 = true := code_word (m := ⟨9, 2⟩) (meth := k9m2) (c := k9c2) (by decide +kernel) rfl rfl rfl (by decide +kernel)
set_option maxRecDepth 65536 in
theorem w_c13 : (Jvm.Cond.code ({ cls := "com/example/lucky_fork/luckyfork/model/GroupSums", name := "addUp", desc := "(I)V" } : Jvm.MethodName) prog_120_method_12_code (2 : Nat) (Option.none : Option Jvm.ClassFile.FieldType)).before args0 about1 = true := code_word (m := ⟨2, 7⟩) (meth := k2m7) (c := k2c7) (by decide +kernel) rfl rfl rfl (by decide +kernel)
set_option maxRecDepth 65536 in
theorem w_c14 : (Jvm.Cond.code ({ cls := "com/example/lucky_fork/luckyfork/model/GroupSums", name := "findByIndex", desc := "(I)I" } : Jvm.MethodName) prog_120_method_7_code (5 : Nat) (Option.some Jvm.ClassFile.FieldType.int)).before args0 about1 = true := code_word (m := ⟨2, 4⟩) (meth := k2m4) (c := k2c4) (by decide +kernel) rfl rfl rfl (by decide +kernel)
set_option maxRecDepth 65536 in
theorem w_c15 : (Jvm.Cond.code ({ cls := "com/example/lucky_fork/luckyfork/model/GroupSums", name := "countBefore", desc := "()I" } : Jvm.MethodName) prog_120_method_10_code (1 : Nat) (Option.some Jvm.ClassFile.FieldType.int)).before args0 about1 = true := code_word (m := ⟨2, 5⟩) (meth := k2m5) (c := k2c5) (by decide +kernel) rfl rfl rfl (by decide +kernel)
def codes1 : List Jvm.Cond := [Jvm.Cond.code x code maxLocals ret, Jvm.Cond.code ({ cls := "com/example/lucky_fork/luckyfork/model/GroupSumsFindByIndexPinLaw", name := "cnt", desc := "(I)I" } : Jvm.MethodName) method_2_code (1 : Nat) (Option.some Jvm.ClassFile.FieldType.int), Jvm.Cond.code ({ cls := "com/example/lucky_fork/luckyfork/model/GroupSums", name := "<init>", desc := "()V" } : Jvm.MethodName) prog_120_method_1_code (1 : Nat) (Option.none : Option Jvm.ClassFile.FieldType), Jvm.Cond.code ({ cls := "java/lang/Object", name := "<init>", desc := "()V" } : Jvm.MethodName) object_method_1_code (1 : Nat) (Option.none : Option Jvm.ClassFile.FieldType), Jvm.Cond.code ({ cls := "com/example/lucky_fork/luckyfork/model/GroupSums", name := "clear", desc := "(I)V" } : Jvm.MethodName) prog_120_method_3_code (3 : Nat) (Option.none : Option Jvm.ClassFile.FieldType), Jvm.Cond.code ({ cls := "java/util/Arrays", name := "fill", desc := "([DD)V" } : Jvm.MethodName) jdk_65_method_113_code (5 : Nat) (Option.none : Option Jvm.ClassFile.FieldType), Jvm.Cond.code ({ cls := "java/util/Arrays", name := "fill", desc := "([II)V" } : Jvm.MethodName) jdk_65_method_103_code (4 : Nat) (Option.none : Option Jvm.ClassFile.FieldType), Jvm.Cond.code ({ cls := "com/example/lucky_fork/luckyfork/model/GroupSums", name := "set", desc := "(IDI)V" } : Jvm.MethodName) prog_120_method_4_code (6 : Nat) (Option.none : Option Jvm.ClassFile.FieldType), Jvm.Cond.code ({ cls := "com/example/lucky_fork/luckyfork/model/GroupSums", name := "settle", desc := "()V" } : Jvm.MethodName) prog_120_method_11_code (3 : Nat) (Option.none : Option Jvm.ClassFile.FieldType), Jvm.Cond.code ({ cls := "com/example/lucky_fork/luckyfork/model/GroupSums", name := "size", desc := "()I" } : Jvm.MethodName) prog_120_method_6_code (1 : Nat) (Option.some Jvm.ClassFile.FieldType.int), Jvm.Cond.code ({ cls := "java/lang/Integer", name := "highestOneBit", desc := "(I)I" } : Jvm.MethodName) jdk_33_method_45_code (1 : Nat) (Option.some Jvm.ClassFile.FieldType.int), Jvm.Cond.code ({ cls := "java/lang/Integer", name := "numberOfLeadingZeros", desc := "(I)I" } : Jvm.MethodName) jdk_33_method_47_code (2 : Nat) (Option.some Jvm.ClassFile.FieldType.int), Jvm.Cond.code ({ cls := "java/lang/Integer", name := "numberOfTrailingZeros", desc := "(I)I" } : Jvm.MethodName) jdk_33_method_48_code (2 : Nat) (Option.some Jvm.ClassFile.FieldType.int), Jvm.Cond.code ({ cls := "com/example/lucky_fork/luckyfork/model/GroupSums", name := "addUp", desc := "(I)V" } : Jvm.MethodName) prog_120_method_12_code (2 : Nat) (Option.none : Option Jvm.ClassFile.FieldType), Jvm.Cond.code ({ cls := "com/example/lucky_fork/luckyfork/model/GroupSums", name := "findByIndex", desc := "(I)I" } : Jvm.MethodName) prog_120_method_7_code (5 : Nat) (Option.some Jvm.ClassFile.FieldType.int), Jvm.Cond.code ({ cls := "com/example/lucky_fork/luckyfork/model/GroupSums", name := "countBefore", desc := "()I" } : Jvm.MethodName) prog_120_method_10_code (1 : Nat) (Option.some Jvm.ClassFile.FieldType.int)]
set_option maxRecDepth 65536 in
theorem codes_eq : words1.filter isCode = codes1 := rfl
theorem w_codes : ∀ c ∈ words1.filter isCode, c.before args0 about1 = true := by
  rw [codes_eq]
  intro c hc
  simp only [codes1, List.mem_cons, List.not_mem_nil, or_false] at hc
  rcases hc with rfl | rfl | rfl | rfl | rfl | rfl | rfl | rfl | rfl | rfl | rfl | rfl | rfl | rfl | rfl | rfl
  · exact w_c0
  · exact w_c1
  · exact w_c2
  · exact w_c3
  · exact w_c4
  · exact w_c5
  · exact w_c6
  · exact w_c7
  · exact w_c8
  · exact w_c9
  · exact w_c10
  · exact w_c11
  · exact w_c12
  · exact w_c13
  · exact w_c14
  · exact w_c15
set_option maxRecDepth 65536 in
theorem w_t1 : (words1.take 24).all (fun c => isCode c || c.before args0 about1) = true := by decide +kernel
set_option maxRecDepth 65536 in
theorem w_t2 : ((words1.drop 24).take 24).all (fun c => isCode c || c.before args0 about1) = true := by decide +kernel
set_option maxRecDepth 65536 in
theorem w_t3 : (((words1.drop 24).drop 24).take 24).all (fun c => isCode c || c.before args0 about1) = true := by decide +kernel
set_option maxRecDepth 65536 in
theorem w_t4 : (((words1.drop 24).drop 24).drop 24).all (fun c => isCode c || c.before args0 about1) = true := by decide +kernel
theorem w_tables : (allAtoms (Jvm.Cond.code x code maxLocals ret :: tables_1)).before args0 about1 = true := by
  rw [allAtoms_all]
  show words1.all (fun c => c.before args0 about1) = true
  refine all_split ?_ w_codes
  rw [← List.take_append_drop 24 words1, List.all_append, w_t1, ← List.take_append_drop 24 (words1.drop 24), List.all_append, w_t2, ← List.take_append_drop 24 ((words1.drop 24).drop 24), List.all_append, w_t3, w_t4]
  rfl
set_option maxRecDepth 65536 in
theorem w_case : (Jvm.Cond.and given_1 narrow_1).before args0 about1 = true := by decide +kernel
theorem w_applies : (headSpec (Jvm.Cond.code x code maxLocals ret :: tables_1) room_1).applies x e0.platform about1 = true :=
  (Spec.applies_iff w_frames).mpr ⟨w_running, w_runnable, w_alone, w_named, w_hears, w_ripe, w_room, w_tables⟩
theorem atStart : AtStart classFile x code maxLocals ret World_1 tables_1 room_1 Calls_1 rest_1 Pre_1 launch0 p0 e0 about1 theMethod args0 below0 :=
  ⟨lists_1, trivial, launch0.admits_env _ _ _, launch0.least_env, fairChoices_fair.cas, fairChoices_fair.clock, w_frames, w_args, w_heap, w_applies, trivial, trivial, w_case⟩
end start1
theorem witness_1 : WitnessClaimed_1 := ⟨start1.p0, start1.e0, start1.about1, start1.theMethod, start1.args0, start1.below0, start1.atStart⟩
end Jvm.Pilot.@@N@@
