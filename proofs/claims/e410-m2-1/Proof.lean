import JvmDerived
import JvmDerived.Pilot.@@N@@Statement
import JvmDerived.Pilot.@@N@@Code
set_option linter.unusedVariables false
set_option linter.unusedSimpArgs false
namespace Jvm.OwnKit
open Sem ClassFile Op Lib Jvm.Stand Jvm.Free Jvm.LawKit Jvm.RoadKit
/-- what stays the same through one method's walk: program, environment, start, method, arguments, frames below, the method's entry and code, the state with which the walk began -/
abbrev Cx := Program × Env × State × MethodId × Array Value × List Frame × Method × Code × State
/-- where a walk stands: heap h, what was written lies at n0 or above, so many new cells and slots, pc, locals, stack -/
def Wk (κ : Cx) (l : Launch) (Z : State) (own nm : String) (code : ByteArray) (ml : Nat) (ret : Option FieldType) (R : Room) (n0 : Nat) (h : Heap) (cells slots pc : Nat) (Ls : Array Slot) (St : List Value) : Prop :=
  match κ with
  | (p, e, s, m, args, below, meth, c, S0) =>
    (p.tables.exec = Jvm.exec ∧ c.code = code ∧ c.maxLocals = ml ∧ meth.sig.returnType = ret ∧ meth.locks = false ∧ meth.name = nm ∧ Z.Warmed39 s.vm ∧ s.vm.findClass own = some m.cls) ∧
    ∃ T locs, Stand p l e R s m args below meth c T locs cells slots ∧ Fr n0 locs ∧ T.heap = h ∧ ∀ t, Steps p.tables e below (T.setTop (mkF m pc Ls St)) t → Steps p.tables e below S0 t
/-- the walk has come to its end -/
def Dn (κ : Cx) (n0 : Nat) (Q : Option Value → Heap → Prop) (cells slots : Nat) : Prop :=
  match κ with
  | (p, e, s, _, _, below, _, _, S0) => ∃ s₂ o, Steps p.tables e below S0 s₂ ∧ s₂.status = .running ∧ Ended s₂ below o ∧ ∃ v L, o = .returned v ∧ (Q v s₂.heap ∧ Fr n0 L) ∧ FrameEnd s o s₂ L cells slots
/-- a method's contract: called with these arguments over this heap it returns, and Q holds of what it returns and of the heap -/
def Met (l : Launch) (Z : State) (y : MethodName) (code : ByteArray) (ml : Nat) (ret : Option FieldType) (R : Room) (n0 : Nat) (as : Array Value) (h0 : Heap) (Q : Option Value → Heap → Prop) : Prop :=
  ∀ ws : List Cond, MetFree l y (head1 (Cond.code y code ml ret :: ws) R) (fun a U => a = as ∧ Z.Warmed39 U.vm ∧ U.heap = h0) (fun _ _ _ _ _ => True) (fun _ U o U' => ∃ v L, o = .returned v ∧ (Q v U'.heap ∧ Fr n0 L) ∧ FrameEnd U o U' L R.cells R.slots)
section Own
variable {κ : Cx} {l : Launch} {Z : State} {own nm : String} {code : ByteArray} {ml : Nat} {ret : Option FieldType} {R : Room} {n0 : Nat} {h : Heap} {cells slots pc q : Nat} {Ls : Array Slot} {St : List Value} {a0 : Array Value}
theorem Met.of {y : MethodName} {as : Array Value} {Q : Option Value → Heap → Prop} (hpl : plainFor y = true) (hef : ∀ m, entryFrame m as ml = mkF m 0 Ls []) (body : ∀ κ, Wk κ l Z y.cls y.name code ml ret R n0 h 0 0 0 Ls [] → Dn κ n0 Q R.cells R.slots) : Met l Z y code ml ret R n0 as h Q := by
  intro ws
  refine MetFree.of_bodySF hpl hisR ?_
  intro p e s m args below meth c s₁ Bd hml0 hP hK
  obtain ⟨ha, hZ, hh⟩ := hP
  have e0 : s₁.heap = h := by rw [← hh, Bd.state]; rfl
  exact body (p, e, s, m, args, below, meth, c, s₁.setTop (entryFrame m args ml)) ⟨⟨Bd.exec, Bd.bytes, hml0, Bd.returns, Bd.notSynchronized, (name_of_methodNamed Bd.named Bd.method).1, hZ, findClass_of_methodNamed Bd.named⟩, s₁, [], Stand.of_body Bd, Fr.nil n0, e0, fun t k => castTop (by rw [ha]; exact hef m) k⟩
theorem Wk.step (w : Wk κ l Z own nm code ml ret R n0 h cells slots pc Ls St) {Ls' : Array Slot} {St' : List Value}
    (f : ∀ {p : Program} {e : Env} {below : List Frame} {m : MethodId} {c : Code} {T t : State}, p.tables.exec = Jvm.exec → c.code = code → At T m c below → Steps p.tables e below (T.setTop (mkF m q Ls' St')) t → Steps p.tables e below (T.setTop (mkF m pc Ls St)) t) : Wk κ l Z own nm code ml ret R n0 h cells slots q Ls' St' := by
  obtain ⟨p, e, s, m, args, below, meth, c, S0⟩ := κ
  obtain ⟨hs, T, locs, X, N, eT, st⟩ := w
  exact ⟨hs, T, locs, X, N, eT, fun t k => st t (f hs.1 hs.2.1 X.here k)⟩
theorem Wk.stepX (w : Wk κ l Z own nm code ml ret R n0 h cells slots pc Ls St) {Ls' : Array Slot} {St' : List Value}
    (f : ∀ {p : Program} {e : Env} {s : State} {m : MethodId} {args : Array Value} {below : List Frame} {meth : Method} {c : Code} {T t : State} {locs : List Loc}, p.tables.exec = Jvm.exec → c.code = code → Z.Warmed39 s.vm → s.vm.findClass own = some m.cls → Stand p l e R s m args below meth c T locs cells slots → T.heap = h → Steps p.tables e below (T.setTop (mkF m q Ls' St')) t → Steps p.tables e below (T.setTop (mkF m pc Ls St)) t) : Wk κ l Z own nm code ml ret R n0 h cells slots q Ls' St' := by
  obtain ⟨p, e, s, m, args, below, meth, c, S0⟩ := κ
  obtain ⟨hs, T, locs, X, N, eT, st⟩ := w
  exact ⟨hs, T, locs, X, N, eT, fun t k => st t (f hs.1 hs.2.1 hs.2.2.2.2.2.2.1 hs.2.2.2.2.2.2.2 X eT k)⟩
theorem Wk.stepT (w : Wk κ l Z own nm code ml ret R n0 h cells slots pc Ls St) {Ls' : Array Slot} {St' : List Value}
    (f : ∀ {p : Program} {e : Env} {s : State} {m : MethodId} {args : Array Value} {below : List Frame} {meth : Method} {c : Code} {T : State} {locs : List Loc}, p.tables.exec = Jvm.exec → c.code = code → c.maxLocals = ml → Z.Warmed39 s.vm → s.vm.findClass own = some m.cls → Stand p l e R s m args below meth c T locs cells slots → T.heap = h → ∃ T', Stand p l e R s m args below meth c T' locs cells slots ∧ T'.heap = h ∧ ∀ t, Steps p.tables e below (T'.setTop (mkF m q Ls' St')) t → Steps p.tables e below (T.setTop (mkF m pc Ls St)) t) : Wk κ l Z own nm code ml ret R n0 h cells slots q Ls' St' := by
  obtain ⟨p, e, s, m, args, below, meth, c, S0⟩ := κ
  obtain ⟨hs, T, locs, X, N, eT, st⟩ := w
  obtain ⟨T', X', eT', st'⟩ := f hs.1 hs.2.1 hs.2.2.1 hs.2.2.2.2.2.2.1 hs.2.2.2.2.2.2.2 X eT
  exact ⟨hs, T', locs, X', N, eT', fun t k => st t (st' t k)⟩
/-! loads, stores, constants -/
theorem Wk.aloadN (w : Wk κ l Z own nm code ml ret R n0 h cells slots pc Ls St) {k : Fin 4} {v : Value} (hd : decode code pc = .ok (.aload_n k, 1)) (hl : Ls[k.val]? = some (.val v)) (hv : v.isRef = true) (hq : pc + 1 = q) : Wk κ l Z own nm code ml ret R n0 h cells slots q Ls (v :: St) := by
  subst hq; exact w.step fun hx hby hat k => XS.aloadN hat hx rfl (hb hby hd) hl hv k
theorem Wk.aload (w : Wk κ l Z own nm code ml ret R n0 h cells slots pc Ls St) {k : Nat} {v : Value} (hd : decode code pc = .ok (.aload k, 2)) (hl : Ls[k]? = some (.val v)) (hv : v.isRef = true) (hq : pc + 2 = q) : Wk κ l Z own nm code ml ret R n0 h cells slots q Ls (v :: St) := by
  subst hq; exact w.step fun hx hby hat k => XS.aload hat hx rfl (hb hby hd) hl hv k
theorem Wk.iloadN (w : Wk κ l Z own nm code ml ret R n0 h cells slots pc Ls St) {k : Fin 4} {v : Int32} (hd : decode code pc = .ok (.iload_n k, 1)) (hl : Ls[k.val]? = some (.val (.int v))) (hq : pc + 1 = q) : Wk κ l Z own nm code ml ret R n0 h cells slots q Ls (.int v :: St) := by
  subst hq; exact w.step fun hx hby hat k => XS.iloadN hat hx rfl (hb hby hd) hl k
theorem Wk.iload (w : Wk κ l Z own nm code ml ret R n0 h cells slots pc Ls St) {k : Nat} {v : Int32} (hd : decode code pc = .ok (.iload k, 2)) (hl : Ls[k]? = some (.val (.int v))) (hq : pc + 2 = q) : Wk κ l Z own nm code ml ret R n0 h cells slots q Ls (.int v :: St) := by
  subst hq; exact w.step fun hx hby hat k => XS.iload hat hx rfl (hb hby hd) hl k
theorem Wk.lloadN (w : Wk κ l Z own nm code ml ret R n0 h cells slots pc Ls St) {k : Fin 4} {v : Int64} (hd : decode code pc = .ok (.lload_n k, 1)) (hl : Ls[k.val]? = some (.val (.long v))) (hq : pc + 1 = q) : Wk κ l Z own nm code ml ret R n0 h cells slots q Ls (.long v :: St) := by
  subst hq; exact w.step fun hx hby hat k => XT.lloadN hat hx rfl (hb hby hd) hl k
theorem Wk.lload (w : Wk κ l Z own nm code ml ret R n0 h cells slots pc Ls St) {k : Nat} {v : Int64} (hd : decode code pc = .ok (.lload k, 2)) (hl : Ls[k]? = some (.val (.long v))) (hq : pc + 2 = q) : Wk κ l Z own nm code ml ret R n0 h cells slots q Ls (.long v :: St) := by
  subst hq; exact w.step fun hx hby hat k => XT.lload hat hx rfl (hb hby hd) hl k
theorem Wk.dloadN (w : Wk κ l Z own nm code ml ret R n0 h cells slots pc Ls St) {k : Fin 4} {v : UInt64} (hd : decode code pc = .ok (.dload_n k, 1)) (hl : Ls[k.val]? = some (.val (.double v))) (hq : pc + 1 = q) : Wk κ l Z own nm code ml ret R n0 h cells slots q Ls (.double v :: St) := by
  subst hq; exact w.step fun hx hby hat k => XS.dloadN hat hx rfl (hb hby hd) hl k
theorem Wk.dload (w : Wk κ l Z own nm code ml ret R n0 h cells slots pc Ls St) {k : Nat} {v : UInt64} (hd : decode code pc = .ok (.dload k, 2)) (hl : Ls[k]? = some (.val (.double v))) (hq : pc + 2 = q) : Wk κ l Z own nm code ml ret R n0 h cells slots q Ls (.double v :: St) := by
  subst hq; exact w.step fun hx hby hat k => XS.dload hat hx rfl (hb hby hd) hl k
theorem Wk.astoreN {v : Value} (w : Wk κ l Z own nm code ml ret R n0 h cells slots pc Ls (v :: St)) {k : Fin 4} {l' : Array Slot} (hd : decode code pc = .ok (.astore_n k, 1)) (hv : v.isRef = true) (hl : storeLocals Ls k.val v = some l') (hq : pc + 1 = q) : Wk κ l Z own nm code ml ret R n0 h cells slots q l' St := by
  subst hq; exact w.step fun hx hby hat k => XS.astoreN hat hx rfl (hb hby hd) rfl hv hl k
theorem Wk.astore {v : Value} (w : Wk κ l Z own nm code ml ret R n0 h cells slots pc Ls (v :: St)) {k : Nat} {l' : Array Slot} (hd : decode code pc = .ok (.astore k, 2)) (hv : v.isRef = true) (hl : storeLocals Ls k v = some l') (hq : pc + 2 = q) : Wk κ l Z own nm code ml ret R n0 h cells slots q l' St := by
  subst hq; exact w.step fun hx hby hat k => XS.astore hat hx rfl (hb hby hd) rfl hv hl k
theorem Wk.istoreN {x : Int32} (w : Wk κ l Z own nm code ml ret R n0 h cells slots pc Ls (.int x :: St)) {k : Fin 4} {l' : Array Slot} (hd : decode code pc = .ok (.istore_n k, 1)) (hl : storeLocals Ls k.val (.int x) = some l') (hq : pc + 1 = q) : Wk κ l Z own nm code ml ret R n0 h cells slots q l' St := by
  subst hq; exact w.step fun hx hby hat k => XS.istoreN hat hx rfl (hb hby hd) rfl hl k
theorem Wk.istore {x : Int32} (w : Wk κ l Z own nm code ml ret R n0 h cells slots pc Ls (.int x :: St)) {k : Nat} {l' : Array Slot} (hd : decode code pc = .ok (.istore k, 2)) (hl : storeLocals Ls k (.int x) = some l') (hq : pc + 2 = q) : Wk κ l Z own nm code ml ret R n0 h cells slots q l' St := by
  subst hq; exact w.step fun hx hby hat k => XS.istore hat hx rfl (hb hby hd) rfl hl k
theorem Wk.lstoreN {x : Int64} (w : Wk κ l Z own nm code ml ret R n0 h cells slots pc Ls (.long x :: St)) {k : Fin 4} {l' : Array Slot} (hd : decode code pc = .ok (.lstore_n k, 1)) (hl : storeLocals Ls k.val (.long x) = some l') (hq : pc + 1 = q) : Wk κ l Z own nm code ml ret R n0 h cells slots q l' St := by
  subst hq; exact w.step fun hx hby hat k => XT.lstoreN hat hx rfl (hb hby hd) rfl hl k
theorem Wk.lstore {x : Int64} (w : Wk κ l Z own nm code ml ret R n0 h cells slots pc Ls (.long x :: St)) {k : Nat} {l' : Array Slot} (hd : decode code pc = .ok (.lstore k, 2)) (hl : storeLocals Ls k (.long x) = some l') (hq : pc + 2 = q) : Wk κ l Z own nm code ml ret R n0 h cells slots q l' St := by
  subst hq; exact w.step fun hx hby hat k => XT.lstore hat hx rfl (hb hby hd) rfl hl k
theorem Wk.dstoreN {x : UInt64} (w : Wk κ l Z own nm code ml ret R n0 h cells slots pc Ls (.double x :: St)) {k : Fin 4} {l' : Array Slot} (hd : decode code pc = .ok (.dstore_n k, 1)) (hl : storeLocals Ls k.val (.double x) = some l') (hq : pc + 1 = q) : Wk κ l Z own nm code ml ret R n0 h cells slots q l' St := by
  subst hq; exact w.step fun hx hby hat k => XS.dstoreN hat hx rfl (hb hby hd) rfl hl k
theorem Wk.dstore {x : UInt64} (w : Wk κ l Z own nm code ml ret R n0 h cells slots pc Ls (.double x :: St)) {k : Nat} {l' : Array Slot} (hd : decode code pc = .ok (.dstore k, 2)) (hl : storeLocals Ls k (.double x) = some l') (hq : pc + 2 = q) : Wk κ l Z own nm code ml ret R n0 h cells slots q l' St := by
  subst hq; exact w.step fun hx hby hat k => XS.dstore hat hx rfl (hb hby hd) rfl hl k
theorem Wk.iconst (w : Wk κ l Z own nm code ml ret R n0 h cells slots pc Ls St) {i : Int} {z : Int32} (hd : decode code pc = .ok (.iconst i, 1)) (hz : Int32.ofInt i = z) (hq : pc + 1 = q) : Wk κ l Z own nm code ml ret R n0 h cells slots q Ls (.int z :: St) := by
  subst hq hz; exact w.step fun hx hby hat k => XS.iconst hat hx rfl (hb hby hd) k
theorem Wk.bipush (w : Wk κ l Z own nm code ml ret R n0 h cells slots pc Ls St) {i : Int} {z : Int32} (hd : decode code pc = .ok (.bipush i, 2)) (hz : (Int8.ofInt i).toInt32 = z) (hq : pc + 2 = q) : Wk κ l Z own nm code ml ret R n0 h cells slots q Ls (.int z :: St) := by
  subst hq hz; exact w.step fun hx hby hat k => XS.bipush hat hx rfl (hb hby hd) k
theorem Wk.sipush (w : Wk κ l Z own nm code ml ret R n0 h cells slots pc Ls St) {i : Int} {z : Int32} (hd : decode code pc = .ok (.sipush i, 3)) (hz : (Int16.ofInt i).toInt32 = z) (hq : pc + 3 = q) : Wk κ l Z own nm code ml ret R n0 h cells slots q Ls (.int z :: St) := by
  subst hq hz; exact w.step fun hx hby hat k => XS.sipush hat hx rfl (hb hby hd) k
theorem Wk.lconst (w : Wk κ l Z own nm code ml ret R n0 h cells slots pc Ls St) {i : Fin 2} {z : Int64} (hd : decode code pc = .ok (.lconst i, 1)) (hz : Int64.ofNat i = z) (hq : pc + 1 = q) : Wk κ l Z own nm code ml ret R n0 h cells slots q Ls (.long z :: St) := by
  subst hq hz; exact w.step fun hx hby hat k => XT.lconst hat hx rfl (hb hby hd) k
theorem Wk.dconst0 (w : Wk κ l Z own nm code ml ret R n0 h cells slots pc Ls St) {z : UInt64} (hd : decode code pc = .ok (.dconst 0, 1)) (hz : FP.dconst0 = z) (hq : pc + 1 = q) : Wk κ l Z own nm code ml ret R n0 h cells slots q Ls (.double z :: St) := by
  subst hq; exact w.step fun hx hby hat k => XS.dconst0 hat hx rfl (hb hby hd) hz k
theorem Wk.ldcI (w : Wk κ l Z own nm code ml ret R n0 h cells slots pc Ls St) {i : Nat} {z : Int32} (wd : (Cond.constant own i z).before a0 Z = true) (hd : decode code pc = .ok (.ldc i, 2)) (hq : pc + 2 = q) : Wk κ l Z own nm code ml ret R n0 h cells slots q Ls (.int z :: St) := by
  subst hq; exact w.stepX fun hx hby hZ hown X _ k => X.ldcInt hx hown (mvT hZ wd) (g := mkF _ pc Ls St) rfl (hb hby hd) _ k
theorem Wk.ldcWI (w : Wk κ l Z own nm code ml ret R n0 h cells slots pc Ls St) {i : Nat} {z : Int32} (wd : (Cond.constant own i z).before a0 Z = true) (hd : decode code pc = .ok (.ldc_w i, 3)) (hq : pc + 3 = q) : Wk κ l Z own nm code ml ret R n0 h cells slots q Ls (.int z :: St) := by
  subst hq; exact w.stepX fun hx hby hZ hown X _ k => X.ldcWI hx hown (mvT hZ wd) (g := mkF _ pc Ls St) rfl (hb hby hd) k
theorem Wk.ldcJ (w : Wk κ l Z own nm code ml ret R n0 h cells slots pc Ls St) {i : Nat} {z : Int64} (wd : (Cond.constantLong own i z).before a0 Z = true) (hd : decode code pc = .ok (.ldc2_w i, 3)) (hq : pc + 3 = q) : Wk κ l Z own nm code ml ret R n0 h cells slots q Ls (.long z :: St) := by
  subst hq; exact w.stepX fun hx hby hZ hown X _ k => X.ldc2Long hx hown (mvT hZ wd) (g := mkF _ pc Ls St) rfl (hb hby hd) _ k
theorem Wk.ldcD (w : Wk κ l Z own nm code ml ret R n0 h cells slots pc Ls St) {i : Nat} {z : UInt64} (wd : (Cond.constantDouble own i z).before a0 Z = true) (hd : decode code pc = .ok (.ldc2_w i, 3)) (hq : pc + 3 = q) : Wk κ l Z own nm code ml ret R n0 h cells slots q Ls (.double z :: St) := by
  subst hq; exact w.stepX fun hx hby hZ hown X _ k => X.ldc2DoubleC hx hown (mvT hZ wd) (g := mkF _ pc Ls St) rfl (hb hby hd) _ k
theorem Wk.dup {v : Value} (w : Wk κ l Z own nm code ml ret R n0 h cells slots pc Ls (v :: St)) (hd : decode code pc = .ok (.dup, 1)) (hc : v.category = 1) (hq : pc + 1 = q) : Wk κ l Z own nm code ml ret R n0 h cells slots q Ls (v :: v :: St) := by
  subst hq; exact w.step fun hx hby hat k => XS.dup hat hx rfl (hb hby hd) rfl hc k
theorem Wk.dupX1 {v u : Value} (w : Wk κ l Z own nm code ml ret R n0 h cells slots pc Ls (v :: u :: St)) (hd : decode code pc = .ok (.dup_x1, 1)) (hc : v.category = 1) (hc' : u.category = 1) (hq : pc + 1 = q) : Wk κ l Z own nm code ml ret R n0 h cells slots q Ls (v :: u :: v :: St) := by
  subst hq; exact w.step fun hx hby hat k => XT.dupX1 hat hx rfl (hb hby hd) rfl hc hc' k
theorem Wk.dup2 {v u : Value} (w : Wk κ l Z own nm code ml ret R n0 h cells slots pc Ls (v :: u :: St)) (hd : decode code pc = .ok (.dup2, 1)) (hc : v.category = 1) (hc' : u.category = 1) (hq : pc + 1 = q) : Wk κ l Z own nm code ml ret R n0 h cells slots q Ls (v :: u :: v :: u :: St) := by
  subst hq; exact w.step fun hx hby hat k => XT.dup2 hat hx rfl (hb hby hd) rfl hc hc' k
theorem Wk.pop {v : Value} (w : Wk κ l Z own nm code ml ret R n0 h cells slots pc Ls (v :: St)) (hd : decode code pc = .ok (.pop, 1)) (hc : v.category = 1) (hq : pc + 1 = q) : Wk κ l Z own nm code ml ret R n0 h cells slots q Ls St := by
  subst hq; exact w.step fun hx hby hat k => XT.pop hat hx rfl (hb hby hd) rfl hc k
theorem Wk.iinc (w : Wk κ l Z own nm code ml ret R n0 h cells slots pc Ls St) {k : Nat} {i : Int} {x z : Int32} {l' : Array Slot} (hd : decode code pc = .ok (.iinc k i, 3)) (hl : Ls[k]? = some (.val (.int x))) (hz : x + Int32.ofInt i = z) (hl' : storeLocals Ls k (.int z) = some l') (hq : pc + 3 = q) : Wk κ l Z own nm code ml ret R n0 h cells slots q l' St := by
  subst hq hz; exact w.step fun hx hby hat k => XS.iinc hat hx rfl (hb hby hd) hl hl' k
theorem Wk.iadd {x y z : Int32} (w : Wk κ l Z own nm code ml ret R n0 h cells slots pc Ls (.int y :: .int x :: St)) (hd : decode code pc = .ok (.iadd, 1)) (hz : x + y = z) (hq : pc + 1 = q) : Wk κ l Z own nm code ml ret R n0 h cells slots q Ls (.int z :: St) := by
  subst hq hz; exact w.step fun hx hby hat k => XS.iadd hat hx rfl (hb hby hd) rfl k
theorem Wk.isub {x y z : Int32} (w : Wk κ l Z own nm code ml ret R n0 h cells slots pc Ls (.int y :: .int x :: St)) (hd : decode code pc = .ok (.isub, 1)) (hz : x - y = z) (hq : pc + 1 = q) : Wk κ l Z own nm code ml ret R n0 h cells slots q Ls (.int z :: St) := by
  subst hq hz; exact w.step fun hx hby hat k => XS.isub hat hx rfl (hb hby hd) rfl k
theorem Wk.imul {x y z : Int32} (w : Wk κ l Z own nm code ml ret R n0 h cells slots pc Ls (.int y :: .int x :: St)) (hd : decode code pc = .ok (.imul, 1)) (hz : x * y = z) (hq : pc + 1 = q) : Wk κ l Z own nm code ml ret R n0 h cells slots q Ls (.int z :: St) := by
  subst hq hz; exact w.step fun hx hby hat k => XS.imul hat hx rfl (hb hby hd) rfl k
theorem Wk.iand {x y z : Int32} (w : Wk κ l Z own nm code ml ret R n0 h cells slots pc Ls (.int y :: .int x :: St)) (hd : decode code pc = .ok (.iand, 1)) (hz : x &&& y = z) (hq : pc + 1 = q) : Wk κ l Z own nm code ml ret R n0 h cells slots q Ls (.int z :: St) := by
  subst hq hz; exact w.step fun hx hby hat k => XS.iand hat hx rfl (hb hby hd) rfl k
theorem Wk.ior {x y z : Int32} (w : Wk κ l Z own nm code ml ret R n0 h cells slots pc Ls (.int y :: .int x :: St)) (hd : decode code pc = .ok (.ior, 1)) (hz : x ||| y = z) (hq : pc + 1 = q) : Wk κ l Z own nm code ml ret R n0 h cells slots q Ls (.int z :: St) := by
  subst hq hz; exact w.step fun hx hby hat k => XT.ior hat hx rfl (hb hby hd) rfl k
theorem Wk.ixor {x y z : Int32} (w : Wk κ l Z own nm code ml ret R n0 h cells slots pc Ls (.int y :: .int x :: St)) (hd : decode code pc = .ok (.ixor, 1)) (hz : x ^^^ y = z) (hq : pc + 1 = q) : Wk κ l Z own nm code ml ret R n0 h cells slots q Ls (.int z :: St) := by
  subst hq hz; exact w.step fun hx hby hat k => XT.ixor hat hx rfl (hb hby hd) rfl k
theorem Wk.ishl {x y z : Int32} (w : Wk κ l Z own nm code ml ret R n0 h cells slots pc Ls (.int y :: .int x :: St)) (hd : decode code pc = .ok (.ishl, 1)) (hz : x <<< (y &&& 31) = z) (hq : pc + 1 = q) : Wk κ l Z own nm code ml ret R n0 h cells slots q Ls (.int z :: St) := by
  subst hq hz; exact w.step fun hx hby hat k => XT.ishl hat hx rfl (hb hby hd) rfl k
theorem Wk.ishr {x y z : Int32} (w : Wk κ l Z own nm code ml ret R n0 h cells slots pc Ls (.int y :: .int x :: St)) (hd : decode code pc = .ok (.ishr, 1)) (hz : x >>> (y &&& 31) = z) (hq : pc + 1 = q) : Wk κ l Z own nm code ml ret R n0 h cells slots q Ls (.int z :: St) := by
  subst hq hz; exact w.step fun hx hby hat k => XT.ishr hat hx rfl (hb hby hd) rfl k
theorem Wk.iushr {x y z : Int32} (w : Wk κ l Z own nm code ml ret R n0 h cells slots pc Ls (.int y :: .int x :: St)) (hd : decode code pc = .ok (.iushr, 1)) (hz : XT.ushr x y = z) (hq : pc + 1 = q) : Wk κ l Z own nm code ml ret R n0 h cells slots q Ls (.int z :: St) := by
  subst hq hz; exact w.step fun hx hby hat k => XT.iushr hat hx rfl (hb hby hd) rfl k
theorem Wk.idiv {x y z : Int32} (w : Wk κ l Z own nm code ml ret R n0 h cells slots pc Ls (.int y :: .int x :: St)) (hd : decode code pc = .ok (.idiv, 1)) (hy : y ≠ 0) (hz : x / y = z) (hq : pc + 1 = q) : Wk κ l Z own nm code ml ret R n0 h cells slots q Ls (.int z :: St) := by
  subst hq hz; exact w.step fun hx hby hat k => XS.idiv hat hx rfl (hb hby hd) rfl hy k
theorem Wk.ladd {x y z : Int64} (w : Wk κ l Z own nm code ml ret R n0 h cells slots pc Ls (.long y :: .long x :: St)) (hd : decode code pc = .ok (.ladd, 1)) (hz : x + y = z) (hq : pc + 1 = q) : Wk κ l Z own nm code ml ret R n0 h cells slots q Ls (.long z :: St) := by
  subst hq hz; exact w.step fun hx hby hat k => XT.ladd hat hx rfl (hb hby hd) rfl k
theorem Wk.lsub {x y z : Int64} (w : Wk κ l Z own nm code ml ret R n0 h cells slots pc Ls (.long y :: .long x :: St)) (hd : decode code pc = .ok (.lsub, 1)) (hz : x - y = z) (hq : pc + 1 = q) : Wk κ l Z own nm code ml ret R n0 h cells slots q Ls (.long z :: St) := by
  subst hq hz; exact w.step fun hx hby hat k => XT.lsub hat hx rfl (hb hby hd) rfl k
theorem Wk.lmul {x y z : Int64} (w : Wk κ l Z own nm code ml ret R n0 h cells slots pc Ls (.long y :: .long x :: St)) (hd : decode code pc = .ok (.lmul, 1)) (hz : x * y = z) (hq : pc + 1 = q) : Wk κ l Z own nm code ml ret R n0 h cells slots q Ls (.long z :: St) := by
  subst hq hz; exact w.step fun hx hby hat k => XT.lmul hat hx rfl (hb hby hd) rfl k
theorem Wk.land {x y z : Int64} (w : Wk κ l Z own nm code ml ret R n0 h cells slots pc Ls (.long y :: .long x :: St)) (hd : decode code pc = .ok (.land, 1)) (hz : x &&& y = z) (hq : pc + 1 = q) : Wk κ l Z own nm code ml ret R n0 h cells slots q Ls (.long z :: St) := by
  subst hq hz; exact w.step fun hx hby hat k => XT.land hat hx rfl (hb hby hd) rfl k
theorem Wk.lor {x y z : Int64} (w : Wk κ l Z own nm code ml ret R n0 h cells slots pc Ls (.long y :: .long x :: St)) (hd : decode code pc = .ok (.lor, 1)) (hz : x ||| y = z) (hq : pc + 1 = q) : Wk κ l Z own nm code ml ret R n0 h cells slots q Ls (.long z :: St) := by
  subst hq hz; exact w.step fun hx hby hat k => XT.lor hat hx rfl (hb hby hd) rfl k
theorem Wk.lxor {x y z : Int64} (w : Wk κ l Z own nm code ml ret R n0 h cells slots pc Ls (.long y :: .long x :: St)) (hd : decode code pc = .ok (.lxor, 1)) (hz : x ^^^ y = z) (hq : pc + 1 = q) : Wk κ l Z own nm code ml ret R n0 h cells slots q Ls (.long z :: St) := by
  subst hq hz; exact w.step fun hx hby hat k => XT.lxor hat hx rfl (hb hby hd) rfl k
theorem Wk.irem {x y z : Int32} (w : Wk κ l Z own nm code ml ret R n0 h cells slots pc Ls (.int y :: .int x :: St)) (hd : decode code pc = .ok (.irem, 1)) (hy : y ≠ 0) (hz : x % y = z) (hq : pc + 1 = q) : Wk κ l Z own nm code ml ret R n0 h cells slots q Ls (.int z :: St) := by
  subst hq hz; exact w.stepX fun hx hby _ _ X _ k => iremM X hx rfl (hb hby hd) rfl hy k
theorem Wk.lshl {x z : Int64} {y : Int32} (w : Wk κ l Z own nm code ml ret R n0 h cells slots pc Ls (.int y :: .long x :: St)) (hd : decode code pc = .ok (.lshl, 1)) (hz : x <<< (y.toInt64 &&& 63) = z) (hq : pc + 1 = q) : Wk κ l Z own nm code ml ret R n0 h cells slots q Ls (.long z :: St) := by
  subst hq hz; exact w.step fun hx hby hat k => XT.lshl hat hx rfl (hb hby hd) rfl k
theorem Wk.lshr {x z : Int64} {y : Int32} (w : Wk κ l Z own nm code ml ret R n0 h cells slots pc Ls (.int y :: .long x :: St)) (hd : decode code pc = .ok (.lshr, 1)) (hz : x >>> (y.toInt64 &&& 63) = z) (hq : pc + 1 = q) : Wk κ l Z own nm code ml ret R n0 h cells slots q Ls (.long z :: St) := by
  subst hq hz; exact w.step fun hx hby hat k => XT.lshr hat hx rfl (hb hby hd) rfl k
theorem Wk.lushr {x z : Int64} {y : Int32} (w : Wk κ l Z own nm code ml ret R n0 h cells slots pc Ls (.int y :: .long x :: St)) (hd : decode code pc = .ok (.lushr, 1)) (hz : XT.ushrL x y = z) (hq : pc + 1 = q) : Wk κ l Z own nm code ml ret R n0 h cells slots q Ls (.long z :: St) := by
  subst hq hz; exact w.step fun hx hby hat k => XT.lushr hat hx rfl (hb hby hd) rfl k
theorem Wk.lcmp {x y : Int64} {z : Int32} (w : Wk κ l Z own nm code ml ret R n0 h cells slots pc Ls (.long y :: .long x :: St)) (hd : decode code pc = .ok (.lcmp, 1)) (hz : XT.cmpL x y = z) (hq : pc + 1 = q) : Wk κ l Z own nm code ml ret R n0 h cells slots q Ls (.int z :: St) := by
  subst hq hz; exact w.step fun hx hby hat k => XT.lcmp hat hx rfl (hb hby hd) rfl k
theorem Wk.i2l {x : Int32} {z : Int64} (w : Wk κ l Z own nm code ml ret R n0 h cells slots pc Ls (.int x :: St)) (hd : decode code pc = .ok (.i2l, 1)) (hz : x.toInt64 = z) (hq : pc + 1 = q) : Wk κ l Z own nm code ml ret R n0 h cells slots q Ls (.long z :: St) := by
  subst hq hz; exact w.step fun hx hby hat k => XT.i2l hat hx rfl (hb hby hd) rfl k
theorem Wk.l2i {x : Int64} {z : Int32} (w : Wk κ l Z own nm code ml ret R n0 h cells slots pc Ls (.long x :: St)) (hd : decode code pc = .ok (.l2i, 1)) (hz : x.toInt32 = z) (hq : pc + 1 = q) : Wk κ l Z own nm code ml ret R n0 h cells slots q Ls (.int z :: St) := by
  subst hq hz; exact w.step fun hx hby hat k => XT.l2i hat hx rfl (hb hby hd) rfl k
theorem Wk.i2b {x : Int32} {z : Int32} (w : Wk κ l Z own nm code ml ret R n0 h cells slots pc Ls (.int x :: St)) (hd : decode code pc = .ok (.i2b, 1)) (hz : x.toInt8.toInt32 = z) (hq : pc + 1 = q) : Wk κ l Z own nm code ml ret R n0 h cells slots q Ls (.int z :: St) := by
  subst hq hz; exact w.step fun hx hby hat k => XT.i2b hat hx rfl (hb hby hd) rfl k
theorem Wk.i2c {x : Int32} {z : Int32} (w : Wk κ l Z own nm code ml ret R n0 h cells slots pc Ls (.int x :: St)) (hd : decode code pc = .ok (.i2c, 1)) (hz : x.toUInt32.toUInt16.toUInt32.toInt32 = z) (hq : pc + 1 = q) : Wk κ l Z own nm code ml ret R n0 h cells slots q Ls (.int z :: St) := by
  subst hq hz; exact w.step fun hx hby hat k => XT.i2c hat hx rfl (hb hby hd) rfl k
theorem Wk.i2d {x : Int32} {z : UInt64} (w : Wk κ l Z own nm code ml ret R n0 h cells slots pc Ls (.int x :: St)) (hd : decode code pc = .ok (.i2d, 1)) (hz : FP.i2d x = z) (hq : pc + 1 = q) : Wk κ l Z own nm code ml ret R n0 h cells slots q Ls (.double z :: St) := by
  subst hq; exact w.step fun hx hby hat k => XS.i2dS hat hx rfl (hb hby hd) rfl hz k
theorem Wk.dcmp {o : CmpOp} {x y : UInt64} {z : Int32} (w : Wk κ l Z own nm code ml ret R n0 h cells slots pc Ls (.double y :: .double x :: St)) (hd : decode code pc = .ok (.dcmp o, 1)) (hz : cmpValue (FP.dcmp x y) o = z) (hq : pc + 1 = q) : Wk κ l Z own nm code ml ret R n0 h cells slots q Ls (.int z :: St) := by
  subst hq; exact w.step fun hx hby hat k => XS.dcmpS hat hx rfl (hb hby hd) rfl hz k
theorem Wk.dadd {x y z : UInt64} (w : Wk κ l Z own nm code ml ret R n0 h cells slots pc Ls (.double y :: .double x :: St)) (hd : decode code pc = .ok (.dadd, 1)) (hn : Jvm.Free.Fl.NoNaN64 (FP.dadd x y)) (hz : FP.dadd x y = z) (hq : pc + 1 = q) : Wk κ l Z own nm code ml ret R n0 h cells slots q Ls (.double z :: St) := by
  subst hq; exact w.step fun hx hby hat k => XS.daddS hat hx rfl (hb hby hd) rfl hn hz k
theorem Wk.dsub {x y z : UInt64} (w : Wk κ l Z own nm code ml ret R n0 h cells slots pc Ls (.double y :: .double x :: St)) (hd : decode code pc = .ok (.dsub, 1)) (hn : Jvm.Free.Fl.NoNaN64 (FP.dsub x y)) (hz : FP.dsub x y = z) (hq : pc + 1 = q) : Wk κ l Z own nm code ml ret R n0 h cells slots q Ls (.double z :: St) := by
  subst hq; exact w.step fun hx hby hat k => XS.dsubS hat hx rfl (hb hby hd) rfl hn hz k
theorem Wk.ddiv {x y z : UInt64} (w : Wk κ l Z own nm code ml ret R n0 h cells slots pc Ls (.double y :: .double x :: St)) (hd : decode code pc = .ok (.ddiv, 1)) (hn : Jvm.Free.Fl.NoNaN64 (FP.ddiv x y)) (hz : FP.ddiv x y = z) (hq : pc + 1 = q) : Wk κ l Z own nm code ml ret R n0 h cells slots q Ls (.double z :: St) := by
  subst hq; exact w.step fun hx hby hat k => XS.ddivS hat hx rfl (hb hby hd) rfl hn hz k
theorem Wk.goto (w : Wk κ l Z own nm code ml ret R n0 h cells slots pc Ls St) {o : Int} (hd : decode code pc = .ok (.goto o, 3)) (ho : 0 ≤ (pc : Int) + o) (hq : ((pc : Int) + o).toNat = q) : Wk κ l Z own nm code ml ret R n0 h cells slots q Ls St :=
  w.step fun hx hby hat k => XS.goto hat hx rfl rfl (hb hby hd) ho hq k
theorem holdEq (x y : Int32) : if_icmp.holds .eq x y = decide (x.toInt = y.toInt) := by
  show (x == y) = _
  rw [Bool.eq_iff_iff, beq_iff_eq, decide_eq_true_iff, Int32.toInt_inj]
theorem holdNe (x y : Int32) : if_icmp.holds .ne x y = decide (x.toInt ≠ y.toInt) := by
  show (x != y) = _
  rw [Bool.eq_iff_iff, bne_iff_ne, decide_eq_true_iff, ne_eq, ne_eq, Int32.toInt_inj]
theorem holdLt (x y : Int32) : if_icmp.holds .lt x y = decide (x.toInt < y.toInt) := by simp [if_icmp.holds, Int32.lt_iff_toInt_lt, Int32.le_iff_toInt_le, ← Int32.toInt_inj]
theorem holdGe (x y : Int32) : if_icmp.holds .ge x y = decide (y.toInt ≤ x.toInt) := by simp [if_icmp.holds, Int32.lt_iff_toInt_lt, Int32.le_iff_toInt_le, ← Int32.toInt_inj]
theorem holdGt (x y : Int32) : if_icmp.holds .gt x y = decide (y.toInt < x.toInt) := by simp [if_icmp.holds, Int32.lt_iff_toInt_lt, Int32.le_iff_toInt_le, ← Int32.toInt_inj]
theorem holdLe (x y : Int32) : if_icmp.holds .le x y = decide (x.toInt ≤ y.toInt) := by simp [if_icmp.holds, Int32.lt_iff_toInt_lt, Int32.le_iff_toInt_le, ← Int32.toInt_inj]
theorem Wk.icmpEq {x y : Int32} (w : Wk κ l Z own nm code ml ret R n0 h cells slots pc Ls (.int y :: .int x :: St)) {o : Int} {q' : Nat} {xi yi : Int} (hd : decode code pc = .ok (.if_icmp .eq o, 3)) (hx0 : x.toInt = xi) (hy0 : y.toInt = yi) (ho : 0 ≤ (pc : Int) + o) (hq : ((pc : Int) + o).toNat = q) (hq' : pc + 3 = q') : (xi = yi ∧ Wk κ l Z own nm code ml ret R n0 h cells slots q Ls St) ∨ (¬ (xi = yi) ∧ Wk κ l Z own nm code ml ret R n0 h cells slots q' Ls St) := by
  subst hx0 hy0 hq'
  by_cases hc : x.toInt = y.toInt
  · exact Or.inl ⟨hc, w.step fun hx hby hat k => XS.icmpYes hat hx rfl rfl (hb hby hd) rfl (by rw [holdEq]; exact decide_eq_true hc) ho hq k⟩
  · exact Or.inr ⟨hc, w.step fun hx hby hat k => XS.icmpNo hat hx rfl (hb hby hd) rfl (by rw [holdEq]; exact decide_eq_false hc) k⟩
theorem Wk.icmpNe {x y : Int32} (w : Wk κ l Z own nm code ml ret R n0 h cells slots pc Ls (.int y :: .int x :: St)) {o : Int} {q' : Nat} {xi yi : Int} (hd : decode code pc = .ok (.if_icmp .ne o, 3)) (hx0 : x.toInt = xi) (hy0 : y.toInt = yi) (ho : 0 ≤ (pc : Int) + o) (hq : ((pc : Int) + o).toNat = q) (hq' : pc + 3 = q') : (xi ≠ yi ∧ Wk κ l Z own nm code ml ret R n0 h cells slots q Ls St) ∨ (¬ (xi ≠ yi) ∧ Wk κ l Z own nm code ml ret R n0 h cells slots q' Ls St) := by
  subst hx0 hy0 hq'
  by_cases hc : x.toInt ≠ y.toInt
  · exact Or.inl ⟨hc, w.step fun hx hby hat k => XS.icmpYes hat hx rfl rfl (hb hby hd) rfl (by rw [holdNe]; exact decide_eq_true hc) ho hq k⟩
  · exact Or.inr ⟨hc, w.step fun hx hby hat k => XS.icmpNo hat hx rfl (hb hby hd) rfl (by rw [holdNe]; exact decide_eq_false hc) k⟩
theorem Wk.icmpLt {x y : Int32} (w : Wk κ l Z own nm code ml ret R n0 h cells slots pc Ls (.int y :: .int x :: St)) {o : Int} {q' : Nat} {xi yi : Int} (hd : decode code pc = .ok (.if_icmp .lt o, 3)) (hx0 : x.toInt = xi) (hy0 : y.toInt = yi) (ho : 0 ≤ (pc : Int) + o) (hq : ((pc : Int) + o).toNat = q) (hq' : pc + 3 = q') : (xi < yi ∧ Wk κ l Z own nm code ml ret R n0 h cells slots q Ls St) ∨ (¬ (xi < yi) ∧ Wk κ l Z own nm code ml ret R n0 h cells slots q' Ls St) := by
  subst hx0 hy0 hq'
  by_cases hc : x.toInt < y.toInt
  · exact Or.inl ⟨hc, w.step fun hx hby hat k => XS.icmpYes hat hx rfl rfl (hb hby hd) rfl (by rw [holdLt]; exact decide_eq_true hc) ho hq k⟩
  · exact Or.inr ⟨hc, w.step fun hx hby hat k => XS.icmpNo hat hx rfl (hb hby hd) rfl (by rw [holdLt]; exact decide_eq_false hc) k⟩
theorem Wk.icmpGe {x y : Int32} (w : Wk κ l Z own nm code ml ret R n0 h cells slots pc Ls (.int y :: .int x :: St)) {o : Int} {q' : Nat} {xi yi : Int} (hd : decode code pc = .ok (.if_icmp .ge o, 3)) (hx0 : x.toInt = xi) (hy0 : y.toInt = yi) (ho : 0 ≤ (pc : Int) + o) (hq : ((pc : Int) + o).toNat = q) (hq' : pc + 3 = q') : (yi ≤ xi ∧ Wk κ l Z own nm code ml ret R n0 h cells slots q Ls St) ∨ (¬ (yi ≤ xi) ∧ Wk κ l Z own nm code ml ret R n0 h cells slots q' Ls St) := by
  subst hx0 hy0 hq'
  by_cases hc : y.toInt ≤ x.toInt
  · exact Or.inl ⟨hc, w.step fun hx hby hat k => XS.icmpYes hat hx rfl rfl (hb hby hd) rfl (by rw [holdGe]; exact decide_eq_true hc) ho hq k⟩
  · exact Or.inr ⟨hc, w.step fun hx hby hat k => XS.icmpNo hat hx rfl (hb hby hd) rfl (by rw [holdGe]; exact decide_eq_false hc) k⟩
theorem Wk.icmpGt {x y : Int32} (w : Wk κ l Z own nm code ml ret R n0 h cells slots pc Ls (.int y :: .int x :: St)) {o : Int} {q' : Nat} {xi yi : Int} (hd : decode code pc = .ok (.if_icmp .gt o, 3)) (hx0 : x.toInt = xi) (hy0 : y.toInt = yi) (ho : 0 ≤ (pc : Int) + o) (hq : ((pc : Int) + o).toNat = q) (hq' : pc + 3 = q') : (yi < xi ∧ Wk κ l Z own nm code ml ret R n0 h cells slots q Ls St) ∨ (¬ (yi < xi) ∧ Wk κ l Z own nm code ml ret R n0 h cells slots q' Ls St) := by
  subst hx0 hy0 hq'
  by_cases hc : y.toInt < x.toInt
  · exact Or.inl ⟨hc, w.step fun hx hby hat k => XS.icmpYes hat hx rfl rfl (hb hby hd) rfl (by rw [holdGt]; exact decide_eq_true hc) ho hq k⟩
  · exact Or.inr ⟨hc, w.step fun hx hby hat k => XS.icmpNo hat hx rfl (hb hby hd) rfl (by rw [holdGt]; exact decide_eq_false hc) k⟩
theorem Wk.icmpLe {x y : Int32} (w : Wk κ l Z own nm code ml ret R n0 h cells slots pc Ls (.int y :: .int x :: St)) {o : Int} {q' : Nat} {xi yi : Int} (hd : decode code pc = .ok (.if_icmp .le o, 3)) (hx0 : x.toInt = xi) (hy0 : y.toInt = yi) (ho : 0 ≤ (pc : Int) + o) (hq : ((pc : Int) + o).toNat = q) (hq' : pc + 3 = q') : (xi ≤ yi ∧ Wk κ l Z own nm code ml ret R n0 h cells slots q Ls St) ∨ (¬ (xi ≤ yi) ∧ Wk κ l Z own nm code ml ret R n0 h cells slots q' Ls St) := by
  subst hx0 hy0 hq'
  by_cases hc : x.toInt ≤ y.toInt
  · exact Or.inl ⟨hc, w.step fun hx hby hat k => XS.icmpYes hat hx rfl rfl (hb hby hd) rfl (by rw [holdLe]; exact decide_eq_true hc) ho hq k⟩
  · exact Or.inr ⟨hc, w.step fun hx hby hat k => XS.icmpNo hat hx rfl (hb hby hd) rfl (by rw [holdLe]; exact decide_eq_false hc) k⟩
theorem Wk.ifEq {x : Int32} (w : Wk κ l Z own nm code ml ret R n0 h cells slots pc Ls (.int x :: St)) {o : Int} {q' : Nat} {xi : Int} (hd : decode code pc = .ok (.ifCond .eq o, 3)) (hx0 : x.toInt = xi) (ho : 0 ≤ (pc : Int) + o) (hq : ((pc : Int) + o).toNat = q) (hq' : pc + 3 = q') : (xi = 0 ∧ Wk κ l Z own nm code ml ret R n0 h cells slots q Ls St) ∨ (¬ (xi = 0) ∧ Wk κ l Z own nm code ml ret R n0 h cells slots q' Ls St) := by
  subst hx0 hq'
  have h0 : (0 : Int32).toInt = 0 := rfl
  by_cases hc : x.toInt = 0
  · exact Or.inl ⟨hc, w.step fun hx hby hat k => XS.ifYes hat hx rfl rfl (hb hby hd) rfl (by rw [if0, holdEq, h0]; exact decide_eq_true hc) ho hq k⟩
  · exact Or.inr ⟨hc, w.step fun hx hby hat k => XS.ifNo hat hx rfl (hb hby hd) rfl (by rw [if0, holdEq, h0]; exact decide_eq_false hc) k⟩
theorem Wk.ifNe {x : Int32} (w : Wk κ l Z own nm code ml ret R n0 h cells slots pc Ls (.int x :: St)) {o : Int} {q' : Nat} {xi : Int} (hd : decode code pc = .ok (.ifCond .ne o, 3)) (hx0 : x.toInt = xi) (ho : 0 ≤ (pc : Int) + o) (hq : ((pc : Int) + o).toNat = q) (hq' : pc + 3 = q') : (xi ≠ 0 ∧ Wk κ l Z own nm code ml ret R n0 h cells slots q Ls St) ∨ (¬ (xi ≠ 0) ∧ Wk κ l Z own nm code ml ret R n0 h cells slots q' Ls St) := by
  subst hx0 hq'
  have h0 : (0 : Int32).toInt = 0 := rfl
  by_cases hc : x.toInt ≠ 0
  · exact Or.inl ⟨hc, w.step fun hx hby hat k => XS.ifYes hat hx rfl rfl (hb hby hd) rfl (by rw [if0, holdNe, h0]; exact decide_eq_true hc) ho hq k⟩
  · exact Or.inr ⟨hc, w.step fun hx hby hat k => XS.ifNo hat hx rfl (hb hby hd) rfl (by rw [if0, holdNe, h0]; exact decide_eq_false hc) k⟩
theorem Wk.ifLt {x : Int32} (w : Wk κ l Z own nm code ml ret R n0 h cells slots pc Ls (.int x :: St)) {o : Int} {q' : Nat} {xi : Int} (hd : decode code pc = .ok (.ifCond .lt o, 3)) (hx0 : x.toInt = xi) (ho : 0 ≤ (pc : Int) + o) (hq : ((pc : Int) + o).toNat = q) (hq' : pc + 3 = q') : (xi < 0 ∧ Wk κ l Z own nm code ml ret R n0 h cells slots q Ls St) ∨ (¬ (xi < 0) ∧ Wk κ l Z own nm code ml ret R n0 h cells slots q' Ls St) := by
  subst hx0 hq'
  have h0 : (0 : Int32).toInt = 0 := rfl
  by_cases hc : x.toInt < 0
  · exact Or.inl ⟨hc, w.step fun hx hby hat k => XS.ifYes hat hx rfl rfl (hb hby hd) rfl (by rw [if0, holdLt, h0]; exact decide_eq_true hc) ho hq k⟩
  · exact Or.inr ⟨hc, w.step fun hx hby hat k => XS.ifNo hat hx rfl (hb hby hd) rfl (by rw [if0, holdLt, h0]; exact decide_eq_false hc) k⟩
theorem Wk.ifGe {x : Int32} (w : Wk κ l Z own nm code ml ret R n0 h cells slots pc Ls (.int x :: St)) {o : Int} {q' : Nat} {xi : Int} (hd : decode code pc = .ok (.ifCond .ge o, 3)) (hx0 : x.toInt = xi) (ho : 0 ≤ (pc : Int) + o) (hq : ((pc : Int) + o).toNat = q) (hq' : pc + 3 = q') : (0 ≤ xi ∧ Wk κ l Z own nm code ml ret R n0 h cells slots q Ls St) ∨ (¬ (0 ≤ xi) ∧ Wk κ l Z own nm code ml ret R n0 h cells slots q' Ls St) := by
  subst hx0 hq'
  have h0 : (0 : Int32).toInt = 0 := rfl
  by_cases hc : 0 ≤ x.toInt
  · exact Or.inl ⟨hc, w.step fun hx hby hat k => XS.ifYes hat hx rfl rfl (hb hby hd) rfl (by rw [if0, holdGe, h0]; exact decide_eq_true hc) ho hq k⟩
  · exact Or.inr ⟨hc, w.step fun hx hby hat k => XS.ifNo hat hx rfl (hb hby hd) rfl (by rw [if0, holdGe, h0]; exact decide_eq_false hc) k⟩
theorem Wk.ifGt {x : Int32} (w : Wk κ l Z own nm code ml ret R n0 h cells slots pc Ls (.int x :: St)) {o : Int} {q' : Nat} {xi : Int} (hd : decode code pc = .ok (.ifCond .gt o, 3)) (hx0 : x.toInt = xi) (ho : 0 ≤ (pc : Int) + o) (hq : ((pc : Int) + o).toNat = q) (hq' : pc + 3 = q') : (0 < xi ∧ Wk κ l Z own nm code ml ret R n0 h cells slots q Ls St) ∨ (¬ (0 < xi) ∧ Wk κ l Z own nm code ml ret R n0 h cells slots q' Ls St) := by
  subst hx0 hq'
  have h0 : (0 : Int32).toInt = 0 := rfl
  by_cases hc : 0 < x.toInt
  · exact Or.inl ⟨hc, w.step fun hx hby hat k => XS.ifYes hat hx rfl rfl (hb hby hd) rfl (by rw [if0, holdGt, h0]; exact decide_eq_true hc) ho hq k⟩
  · exact Or.inr ⟨hc, w.step fun hx hby hat k => XS.ifNo hat hx rfl (hb hby hd) rfl (by rw [if0, holdGt, h0]; exact decide_eq_false hc) k⟩
theorem Wk.ifLe {x : Int32} (w : Wk κ l Z own nm code ml ret R n0 h cells slots pc Ls (.int x :: St)) {o : Int} {q' : Nat} {xi : Int} (hd : decode code pc = .ok (.ifCond .le o, 3)) (hx0 : x.toInt = xi) (ho : 0 ≤ (pc : Int) + o) (hq : ((pc : Int) + o).toNat = q) (hq' : pc + 3 = q') : (xi ≤ 0 ∧ Wk κ l Z own nm code ml ret R n0 h cells slots q Ls St) ∨ (¬ (xi ≤ 0) ∧ Wk κ l Z own nm code ml ret R n0 h cells slots q' Ls St) := by
  subst hx0 hq'
  have h0 : (0 : Int32).toInt = 0 := rfl
  by_cases hc : x.toInt ≤ 0
  · exact Or.inl ⟨hc, w.step fun hx hby hat k => XS.ifYes hat hx rfl rfl (hb hby hd) rfl (by rw [if0, holdLe, h0]; exact decide_eq_true hc) ho hq k⟩
  · exact Or.inr ⟨hc, w.step fun hx hby hat k => XS.ifNo hat hx rfl (hb hby hd) rfl (by rw [if0, holdLe, h0]; exact decide_eq_false hc) k⟩
theorem Wk.acmpEq {x y : Value} (w : Wk κ l Z own nm code ml ret R n0 h cells slots pc Ls (y :: x :: St)) {o : Int} {q' : Nat} (hd : decode code pc = .ok (.if_acmp .eq o, 3)) (hx' : x.isRef = true) (hy' : y.isRef = true) (ho : 0 ≤ (pc : Int) + o) (hq : ((pc : Int) + o).toNat = q) (hq' : pc + 3 = q') : (x = y ∧ Wk κ l Z own nm code ml ret R n0 h cells slots q Ls St) ∨ (¬ (x = y) ∧ Wk κ l Z own nm code ml ret R n0 h cells slots q' Ls St) := by
  subst hq'
  by_cases hc : x = y
  · exact Or.inl ⟨hc, w.step fun hx hby hat k => XT.acmpYes hat hx rfl rfl (hb hby hd) rfl hx' hy' (by simpa [XT.acmp] using hc) ho hq k⟩
  · exact Or.inr ⟨hc, w.step fun hx hby hat k => XT.acmpNo hat hx rfl (hb hby hd) rfl hx' hy' (by simpa [XT.acmp] using hc) k⟩
theorem Wk.acmpNe {x y : Value} (w : Wk κ l Z own nm code ml ret R n0 h cells slots pc Ls (y :: x :: St)) {o : Int} {q' : Nat} (hd : decode code pc = .ok (.if_acmp .ne o, 3)) (hx' : x.isRef = true) (hy' : y.isRef = true) (ho : 0 ≤ (pc : Int) + o) (hq : ((pc : Int) + o).toNat = q) (hq' : pc + 3 = q') : (x ≠ y ∧ Wk κ l Z own nm code ml ret R n0 h cells slots q Ls St) ∨ (¬ (x ≠ y) ∧ Wk κ l Z own nm code ml ret R n0 h cells slots q' Ls St) := by
  subst hq'
  by_cases hc : x ≠ y
  · exact Or.inl ⟨hc, w.step fun hx hby hat k => XT.acmpYes hat hx rfl rfl (hb hby hd) rfl hx' hy' (by simpa [XT.acmp] using hc) ho hq k⟩
  · exact Or.inr ⟨hc, w.step fun hx hby hat k => XT.acmpNo hat hx rfl (hb hby hd) rfl hx' hy' (by simpa [XT.acmp] using hc) k⟩
theorem Wk.acmpEqR {a b : Nat} (w : Wk κ l Z own nm code ml ret R n0 h cells slots pc Ls (.ref b :: .ref a :: St)) {o : Int} {q' : Nat} (hd : decode code pc = .ok (.if_acmp .eq o, 3)) (ho : 0 ≤ (pc : Int) + o) (hq : ((pc : Int) + o).toNat = q) (hq' : pc + 3 = q') : (a = b ∧ Wk κ l Z own nm code ml ret R n0 h cells slots q Ls St) ∨ (¬ (a = b) ∧ Wk κ l Z own nm code ml ret R n0 h cells slots q' Ls St) :=
  (w.acmpEq hd rfl rfl ho hq hq').imp (fun g => ⟨Value.ref.inj g.1, g.2⟩) (fun g => ⟨fun e => g.1 (congrArg Value.ref e), g.2⟩)
theorem Wk.acmpNeR {a b : Nat} (w : Wk κ l Z own nm code ml ret R n0 h cells slots pc Ls (.ref b :: .ref a :: St)) {o : Int} {q' : Nat} (hd : decode code pc = .ok (.if_acmp .ne o, 3)) (ho : 0 ≤ (pc : Int) + o) (hq : ((pc : Int) + o).toNat = q) (hq' : pc + 3 = q') : (a ≠ b ∧ Wk κ l Z own nm code ml ret R n0 h cells slots q Ls St) ∨ (¬ (a ≠ b) ∧ Wk κ l Z own nm code ml ret R n0 h cells slots q' Ls St) :=
  (w.acmpNe hd rfl rfl ho hq hq').imp (fun g => ⟨fun e => g.1 (congrArg Value.ref e), g.2⟩) (fun g => ⟨fun e => g.1 fun e' => e (Value.ref.inj e'), g.2⟩)
/-- a field of the start, by the case's own words -/
theorem fld_of_eq {args : Array Value} {s : State} {t : Term} {C n d : String} {k : Int32} {a : Nat} (hh : (Cond.eq (Term.field t C n d) (Term.int k)).value args s none s [] = some true) (ht : t.eval args s none [] s = some (.ref a)) : Fld s s.heap a C n d (.int k) := by
  obtain ⟨x, y, ex, ey, k1, k2⟩ := cmp_v (Or.inl hh)
  obtain rfl : y = .int k := (Option.some.inj (ey.symm.trans (Term.int_eval k)))
  obtain ⟨z, rfl⟩ := k2
  obtain rfl : z = k := gotT (Cond.eq_ints ex ey) hh
  exact Fld.start (by rw [← fld_at ht]; exact ex)
/-! returns -/
theorem Wk.retI {x : Int32} (w : Wk κ l Z own nm code ml (some .int) R n0 h cells slots pc Ls (.int x :: St)) {Q : Option Value → Heap → Prop} {C S : Nat} (hd : decode code pc = .ok (.ireturn, 1)) (hQ : Q (some (.int x)) h) (hc : cells ≤ C) (hs : slots ≤ S) : Dn κ n0 Q C S := by
  obtain ⟨p, e, s, m, args, below, meth, c, S0⟩ := κ
  obtain ⟨⟨hx, hby, hml, hret, hlk, hnm, hZ, hown⟩, T, locs, X, N, eT, st⟩ := w
  obtain ⟨fs, hr, hrun, hended, hW, hsame⟩ := X.leave (v := some (.int x)) (fun hh => by rw [hret] at hh; cases hh) hlk
  exact ⟨_, _, st _ (retOut X hx hret rfl (Or.inl ⟨rfl, Or.inl rfl, _, rfl⟩) (hb hby hd) hr), hrun, hended, _, _, rfl, ⟨by rw [show (T.setFrames fs).heap = h from eT]; exact hQ, N⟩, ⟨_, rfl⟩, hW, hsame.mono hc hs⟩
theorem Wk.retZ {x z : Int32} (w : Wk κ l Z own nm code ml (some .boolean) R n0 h cells slots pc Ls (.int x :: St)) {Q : Option Value → Heap → Prop} {C S : Nat} (hd : decode code pc = .ok (.ireturn, 1)) (hz : x &&& 1 = z) (hQ : Q (some (.int z)) h) (hc : cells ≤ C) (hs : slots ≤ S) : Dn κ n0 Q C S := by
  obtain ⟨p, e, s, m, args, below, meth, c, S0⟩ := κ
  obtain ⟨⟨hx, hby, hml, hret, hlk, hnm, hZ, hown⟩, T, locs, X, N, eT, st⟩ := w
  subst hz
  obtain ⟨fs, hr, hrun, hended, hW, hsame⟩ := X.leave (v := some (.int (nar .boolean x))) (fun hh => by rw [hret] at hh; cases hh) hlk
  exact ⟨_, _, st _ (retN X hx hret (by simp) (hb hby hd) hr), hrun, hended, _, _, rfl, ⟨by rw [show (T.setFrames fs).heap = h from eT]; exact hQ, N⟩, ⟨_, rfl⟩, hW, hsame.mono hc hs⟩
theorem Wk.retJ {x : Int64} (w : Wk κ l Z own nm code ml (some .long) R n0 h cells slots pc Ls (.long x :: St)) {Q : Option Value → Heap → Prop} {C S : Nat} (hd : decode code pc = .ok (.lreturn, 1)) (hQ : Q (some (.long x)) h) (hc : cells ≤ C) (hs : slots ≤ S) : Dn κ n0 Q C S := by
  obtain ⟨p, e, s, m, args, below, meth, c, S0⟩ := κ
  obtain ⟨⟨hx, hby, hml, hret, hlk, hnm, hZ, hown⟩, T, locs, X, N, eT, st⟩ := w
  obtain ⟨fs, hr, hrun, hended, hW, hsame⟩ := X.leave (v := some (.long x)) (fun hh => by rw [hret] at hh; cases hh) hlk
  exact ⟨_, _, st _ (retOut X hx hret rfl (Or.inr (Or.inl ⟨rfl, rfl, _, rfl⟩)) (hb hby hd) hr), hrun, hended, _, _, rfl, ⟨by rw [show (T.setFrames fs).heap = h from eT]; exact hQ, N⟩, ⟨_, rfl⟩, hW, hsame.mono hc hs⟩
theorem Wk.retD {x : UInt64} (w : Wk κ l Z own nm code ml (some .double) R n0 h cells slots pc Ls (.double x :: St)) {Q : Option Value → Heap → Prop} {C S : Nat} (hd : decode code pc = .ok (.dreturn, 1)) (hQ : Q (some (.double x)) h) (hc : cells ≤ C) (hs : slots ≤ S) : Dn κ n0 Q C S := by
  obtain ⟨p, e, s, m, args, below, meth, c, S0⟩ := κ
  obtain ⟨⟨hx, hby, hml, hret, hlk, hnm, hZ, hown⟩, T, locs, X, N, eT, st⟩ := w
  obtain ⟨fs, hr, hrun, hended, hW, hsame⟩ := X.leave (v := some (.double x)) (fun hh => by rw [hret] at hh; cases hh) hlk
  exact ⟨_, _, st _ (retOut X hx hret rfl (Or.inr (Or.inr (Or.inl ⟨rfl, rfl, _, rfl⟩))) (hb hby hd) hr), hrun, hended, _, _, rfl, ⟨by rw [show (T.setFrames fs).heap = h from eT]; exact hQ, N⟩, ⟨_, rfl⟩, hW, hsame.mono hc hs⟩
theorem Wk.retA {rt : FieldType} {v : Value} (w : Wk κ l Z own nm code ml (some rt) R n0 h cells slots pc Ls (v :: St)) {Q : Option Value → Heap → Prop} {C S : Nat} (hd : decode code pc = .ok (.areturn, 1)) (hrt : rt.isReference = true) (hn : narrow rt v = v) (hv : v.isRef = true) (hQ : Q (some v) h) (hc : cells ≤ C) (hs : slots ≤ S) : Dn κ n0 Q C S := by
  obtain ⟨p, e, s, m, args, below, meth, c, S0⟩ := κ
  obtain ⟨⟨hx, hby, hml, hret, hlk, hnm, hZ, hown⟩, T, locs, X, N, eT, st⟩ := w
  obtain ⟨fs, hr, hrun, hended, hW, hsame⟩ := X.leave (v := some v) (fun hh => by rw [hret] at hh; cases hh) hlk
  exact ⟨_, _, st _ (retOut X hx hret hn (Or.inr (Or.inr (Or.inr (Or.inr ⟨rfl, hrt, hv⟩)))) (hb hby hd) hr), hrun, hended, _, _, rfl, ⟨by rw [show (T.setFrames fs).heap = h from eT]; exact hQ, N⟩, ⟨_, rfl⟩, hW, hsame.mono hc hs⟩
theorem Wk.retV (w : Wk κ l Z own nm code ml none R n0 h cells slots pc Ls []) {Q : Option Value → Heap → Prop} {C S : Nat} (hd : decode code pc = .ok (.return_, 1)) (hQ : Q none h) (hc : cells ≤ C) (hs : slots ≤ S) : Dn κ n0 Q C S := by
  obtain ⟨p, e, s, m, args, below, meth, c, S0⟩ := κ
  obtain ⟨⟨hx, hby, hml, hret, hlk, hnm, hZ, hown⟩, T, locs, X, N, eT, st⟩ := w
  obtain ⟨fs, hr, hrun, hended, hW, hsame⟩ := X.leave (v := none) (fun hh => rfl) hlk
  exact ⟨_, _, st _ (X.returnOut hx hret (hb hby hd) hr), hrun, hended, _, _, rfl, ⟨by rw [show (T.setFrames fs).heap = h from eT]; exact hQ, N⟩, ⟨_, rfl⟩, hW, hsame.mono hc hs⟩
/-! the heap -/
theorem Wk.getF {a : Nat} (w : Wk κ l Z own nm code ml ret R n0 h cells slots pc Ls (.ref a :: St)) {O n d : String} {i : Nat} {v : Value} (wd : (Cond.fieldLink own i O n d).before a0 Z = true) (F : Fld Z h a O n d v) (hd : decode code pc = .ok (.getfield i, 3)) (hq : pc + 3 = q) : Wk κ l Z own nm code ml ret R n0 h cells slots q Ls (v :: St) := by
  subst hq; exact w.stepT fun hx hby _ hZ hown X eT => Jvm.RoadKit.getF X hx hZ hown (host := "") (Or.inl wd) Via.refl eT F (g := mkF _ pc Ls _) rfl rfl (hb hby hd)
theorem Wk.getS (w : Wk κ l Z own nm code ml ret R n0 h cells slots pc Ls St) {O n d : String} {i : Nat} {v : Value} (wd : (Cond.fieldLink own i O n d).before a0 Z = true) (F : Sta Z h O n d v) (hd : decode code pc = .ok (.getstatic i, 3)) (hq : pc + 3 = q) : Wk κ l Z own nm code ml ret R n0 h cells slots q Ls (v :: St) := by
  subst hq; exact w.stepT fun hx hby _ hZ hown X eT => Jvm.RoadKit.getS X hx hZ hown (host := "") wd Via.refl eT F (g := mkF _ pc Ls _) rfl (hb hby hd)
theorem Wk.putF {a : Nat} {v old : Value} (w : Wk κ l Z own nm code ml ret R n0 h cells slots pc Ls (v :: .ref a :: St)) {O n d C : String} {i kk : Nat} {ty : FieldType} (wd : (Cond.fieldLink own i O n d).before a0 Z = true) (F : Fld Z h a O n d old) (E : Exa Z h a C) (L : (Cond.lays C O n d).before a0 Z = true ∨ ((Cond.laysFinal C O n d).before a0 Z = true ∧ own = O ∧ nm = "<init>")) (wi : (Cond.instantiable C kk).before a0 Z = true)
    (hty : parseFieldDescriptor d = some ty) (hn : narrow ty v = v) (hf : fits ty v = true) (hd : decode code pc = .ok (.putfield i, 3)) (ge : n0 ≤ a) (hq : pc + 3 = q) : ∃ h', Wr h h' a (Jvm.RoadKit.slotOf Z O n d) v ∧ Wk κ l Z own nm code ml ret R n0 h' cells slots q Ls St := by
  obtain ⟨p, e, s, m, args, below, meth, c, S0⟩ := κ
  obtain ⟨hs, T, locs, X, N, eT, st⟩ := w
  subst hq
  obtain ⟨T', h', X', e', W, st'⟩ := Jvm.RoadKit.putF X hs.1 hs.2.2.2.2.2.2.1 hs.2.2.2.2.2.2.2 (host := "") (Or.inl wd) Via.refl eT F E (L.imp id fun q => ⟨q.1, q.2.1, hs.2.2.2.2.2.1.trans q.2.2⟩) wi hty hn hf (g := mkF m pc Ls _) rfl rfl (hb hs.2.1 hd)
  exact ⟨h', W, hs, T', _, X', Fr.snoc X' N ge, e', fun t k => st t (st' t k)⟩
theorem Wk.newO (w : Wk κ l Z own nm code ml ret R n0 h cells slots pc Ls St) {C : String} {i n : Nat} (w1 : (Cond.classLink own i C).before a0 Z = true) (w2 : (Cond.instantiable C n).before a0 Z = true) (w3 : (Cond.initialized C).before a0 Z = true) (hd : decode code pc = .ok (.new i, 3)) (hc : cells + 1 ≤ R.cells) (hl : slots + n ≤ R.slots) (hq : pc + 3 = q) :
    ∃ (h' : Heap) (a : Nat), a = h.size ∧ Ext h h' ∧ Exa Z h' a C ∧ (∀ {O nm d : String} {ty : FieldType}, Laid Z a0 C O nm d → parseFieldDescriptor d = some ty → Fld Z h' a O nm d (defaultValue ty)) ∧ Wk κ l Z own nm code ml ret R n0 h' (cells + 1) (slots + n) q Ls (.ref a :: St) := by
  obtain ⟨p, e, s, m, args, below, meth, c, S0⟩ := κ
  obtain ⟨hs, T, locs, X, N, eT, st⟩ := w
  subst hq
  obtain ⟨T', h', X', e', E, A, D, -, st'⟩ := Jvm.RoadKit.newO X hs.1 hs.2.2.2.2.2.2.1 hs.2.2.2.2.2.2.2 w1 w2 w3 eT (g := mkF m pc Ls St) rfl (hb hs.2.1 hd) hc hl
  exact ⟨h', _, rfl, E, A, D, hs, T', _, X', N, e', fun t k => st t (st' t k)⟩
theorem Wk.newP {z : Int32} (w : Wk κ l Z own nm code ml ret R n0 h cells slots pc Ls (.int z :: St)) {aty : ArrayType} {ty : FieldType} (w1 : (Cond.arrayClass ty).before a0 Z = true) (hty : newarray.typeOf aty = ty) (hd : decode code pc = .ok (.newarray aty, 2)) (hn : ¬ z < 0) {cap : Nat} (hcap : z.toNatClampNeg ≤ cap) (hbig : cap * 8 ≤ 536870912) (hc : cells + 1 ≤ R.cells) (hl : slots + cap ≤ R.slots) (hq : pc + 2 = q) :
    ∃ (h' : Heap) (a : Nat) (cA : ClassId), a = h.size ∧ Ext h h' ∧ Arr Z h' a (newA cA ty z) ty ∧ Wk κ l Z own nm code ml ret R n0 h' (cells + 1) (slots + cap) q Ls (.ref a :: St) := by
  obtain ⟨p, e, s, m, args, below, meth, c, S0⟩ := κ
  obtain ⟨hs, T, locs, X, N, eT, st⟩ := w
  subst hq hty
  obtain ⟨T', h', cA, X', e', E, A, st'⟩ := Jvm.RoadKit.newP X hs.1 hs.2.2.2.2.2.2.1 w1 eT (g := mkF m pc Ls _) rfl (hb hs.2.1 hd) rfl hn hcap hbig hc hl
  exact ⟨h', _, cA, rfl, E, A, hs, T', _, X', N, e', fun t k => st t (st' t k)⟩
theorem Wk.newR {z : Int32} (w : Wk κ l Z own nm code ml ret R n0 h cells slots pc Ls (.int z :: St)) {C : String} {i : Nat} (w1 : (Cond.classLink own i C).before a0 Z = true) (w2 : (Cond.arrayOver (.object C)).before a0 Z = true) (hd : decode code pc = .ok (.anewarray i, 3)) (hn : ¬ z < 0) {cap : Nat} (hcap : z.toNatClampNeg ≤ cap) (hbig : cap * 8 ≤ 536870912) (hc : cells + 1 ≤ R.cells) (hl : slots + cap ≤ R.slots) (hq : pc + 3 = q) :
    ∃ (h' : Heap) (a : Nat) (cA : ClassId), a = h.size ∧ Ext h h' ∧ Arr Z h' a (newA cA (.object C) z) (.object C) ∧ Ovr Z cA C ∧ Wk κ l Z own nm code ml ret R n0 h' (cells + 1) (slots + cap) q Ls (.ref a :: St) := by
  obtain ⟨p, e, s, m, args, below, meth, c, S0⟩ := κ
  obtain ⟨hs, T, locs, X, N, eT, st⟩ := w
  subst hq
  obtain ⟨T', h', cA, X', e', E, A, O, st'⟩ := Jvm.RoadKit.newR X hs.1 hs.2.2.2.2.2.2.1 hs.2.2.2.2.2.2.2 w1 w2 eT (g := mkF m pc Ls _) rfl (hb hs.2.1 hd) rfl hn hcap hbig hc hl
  exact ⟨h', _, cA, rfl, E, A, O, hs, T', _, X', N, e', fun t k => st t (st' t k)⟩
theorem Wk.stI {a : Nat} {j x : Int32} (w : Wk κ l Z own nm code ml ret R n0 h cells slots pc Ls (.int x :: .int j :: .ref a :: St)) {cl : Cell} (A : Arr Z h a cl .int) (hj : ¬ (j < 0 ∨ cl.slots.size ≤ j.toNatClampNeg)) (hd : decode code pc = .ok (.iastore, 1)) (ge : n0 ≤ a) (hq : pc + 1 = q) : ∃ h', Wr h h' a j.toNatClampNeg (.int x) ∧ Wk κ l Z own nm code ml ret R n0 h' cells slots q Ls St := by
  obtain ⟨p, e, s, m, args, below, meth, c, S0⟩ := κ
  obtain ⟨hs, T, locs, X, N, eT, st⟩ := w
  subst hq
  obtain ⟨T', h', X', e', W, st'⟩ := Jvm.RoadKit.stI X hs.1 hs.2.2.2.2.2.2.1 eT A hj (g := mkF m pc Ls _) rfl rfl (hb hs.2.1 hd)
  exact ⟨h', W, hs, T', _, X', Fr.snoc X' N ge, e', fun t k => st t (st' t k)⟩
theorem Wk.stB {a : Nat} {j x : Int32} (w : Wk κ l Z own nm code ml ret R n0 h cells slots pc Ls (.int x :: .int j :: .ref a :: St)) {cl : Cell} (A : Arr Z h a cl .byte) (hj : ¬ (j < 0 ∨ cl.slots.size ≤ j.toNatClampNeg)) (hd : decode code pc = .ok (.bastore, 1)) (ge : n0 ≤ a) (hq : pc + 1 = q) : ∃ h', Wr h h' a j.toNatClampNeg (.int (nar .byte x)) ∧ Wk κ l Z own nm code ml ret R n0 h' cells slots q Ls St := by
  obtain ⟨p, e, s, m, args, below, meth, c, S0⟩ := κ
  obtain ⟨hs, T, locs, X, N, eT, st⟩ := w
  subst hq
  obtain ⟨T', h', X', e', W, st'⟩ := Jvm.RoadKit.stB X hs.1 hs.2.2.2.2.2.2.1 eT A hj (g := mkF m pc Ls _) rfl rfl (hb hs.2.1 hd)
  exact ⟨h', W, hs, T', _, X', Fr.snoc X' N ge, e', fun t k => st t (st' t k)⟩
theorem Wk.stD {a : Nat} {j : Int32} {x : UInt64} (w : Wk κ l Z own nm code ml ret R n0 h cells slots pc Ls (.double x :: .int j :: .ref a :: St)) {cl : Cell} (A : Arr Z h a cl .double) (hj : ¬ (j < 0 ∨ cl.slots.size ≤ j.toNatClampNeg)) (hd : decode code pc = .ok (.dastore, 1)) (ge : n0 ≤ a) (hq : pc + 1 = q) : ∃ h', Wr h h' a j.toNatClampNeg (.double x) ∧ Wk κ l Z own nm code ml ret R n0 h' cells slots q Ls St := by
  obtain ⟨p, e, s, m, args, below, meth, c, S0⟩ := κ
  obtain ⟨hs, T, locs, X, N, eT, st⟩ := w
  subst hq
  obtain ⟨T', h', X', e', W, st'⟩ := Jvm.RoadKit.stD X hs.1 hs.2.2.2.2.2.2.1 eT A hj (g := mkF m pc Ls _) rfl rfl (hb hs.2.1 hd)
  exact ⟨h', W, hs, T', _, X', Fr.snoc X' N ge, e', fun t k => st t (st' t k)⟩
theorem Wk.stR {a : Nat} {j : Int32} {v : Value} (w : Wk κ l Z own nm code ml ret R n0 h cells slots pc Ls (v :: .int j :: .ref a :: St)) {cl : Cell} {ty : FieldType} (A : Arr Z h a cl ty) (hj : ¬ (j < 0 ∨ cl.slots.size ≤ j.toNatClampNeg)) (hty : ty.isReference = true) (F : Sto Z h a v) (hd : decode code pc = .ok (.aastore, 1)) (ge : n0 ≤ a) (hq : pc + 1 = q) : ∃ h', Wr h h' a j.toNatClampNeg v ∧ Wk κ l Z own nm code ml ret R n0 h' cells slots q Ls St := by
  obtain ⟨p, e, s, m, args, below, meth, c, S0⟩ := κ
  obtain ⟨hs, T, locs, X, N, eT, st⟩ := w
  subst hq
  obtain ⟨T', h', X', e', W, st'⟩ := Jvm.RoadKit.stR X hs.1 hs.2.2.2.2.2.2.1 eT A hj hty F (g := mkF m pc Ls _) rfl rfl (hb hs.2.1 hd)
  exact ⟨h', W, hs, T', _, X', Fr.snoc X' N ge, e', fun t k => st t (st' t k)⟩
theorem Wk.ldI {a : Nat} {j : Int32} {v : Value} (w : Wk κ l Z own nm code ml ret R n0 h cells slots pc Ls (.int j :: .ref a :: St)) {cl : Cell} (A : Arr Z h a cl .int) (hj : ¬ (j < 0 ∨ cl.slots.size ≤ j.toNatClampNeg)) (hv : cl.slots[j.toNatClampNeg]? = some v) (hd : decode code pc = .ok (.iaload, 1)) (hq : pc + 1 = q) : Wk κ l Z own nm code ml ret R n0 h cells slots q Ls (v :: St) := by
  subst hq; exact w.stepX fun hx hby hZ _ X eT k => X.iaload hx (j := j) (v := v) (by rw [eT]; exact A.1) (State.isArrayOf_alike hZ.alike A.2.1) A.2.2 hj hv (g := mkF _ pc Ls _) rfl rfl (hb hby hd) _ k
theorem Wk.ldB {a : Nat} {j : Int32} {v : Value} (w : Wk κ l Z own nm code ml ret R n0 h cells slots pc Ls (.int j :: .ref a :: St)) {cl : Cell} (A : Arr Z h a cl .byte) (hj : ¬ (j < 0 ∨ cl.slots.size ≤ j.toNatClampNeg)) (hv : cl.slots[j.toNatClampNeg]? = some v) (hd : decode code pc = .ok (.baload, 1)) (hq : pc + 1 = q) : Wk κ l Z own nm code ml ret R n0 h cells slots q Ls (v :: St) := by
  subst hq; exact w.stepX fun hx hby hZ _ X eT k => X.baloadBytes hx (j := j) (v := v) (by rw [eT]; exact A.1) (State.isArrayOf_alike hZ.alike A.2.1) A.2.2 hj hv (g := mkF _ pc Ls _) rfl rfl (hb hby hd) _ k
theorem Wk.ldD {a : Nat} {j : Int32} {v : Value} (w : Wk κ l Z own nm code ml ret R n0 h cells slots pc Ls (.int j :: .ref a :: St)) {cl : Cell} (A : Arr Z h a cl .double) (hj : ¬ (j < 0 ∨ cl.slots.size ≤ j.toNatClampNeg)) (hv : cl.slots[j.toNatClampNeg]? = some v) (hd : decode code pc = .ok (.daload, 1)) (hq : pc + 1 = q) : Wk κ l Z own nm code ml ret R n0 h cells slots q Ls (v :: St) := by
  subst hq; exact w.stepX fun hx hby hZ _ X eT k => X.daload hx (j := j) (v := v) (by rw [eT]; exact A.1) (State.isArrayOf_alike hZ.alike A.2.1) A.2.2 hj hv (g := mkF _ pc Ls _) rfl rfl (hb hby hd) _ k
theorem Wk.ldR {a : Nat} {j : Int32} {v : Value} (w : Wk κ l Z own nm code ml ret R n0 h cells slots pc Ls (.int j :: .ref a :: St)) {cl : Cell} {ty : FieldType} (A : Arr Z h a cl ty) (hty : ty.isReference = true) (hj : ¬ (j < 0 ∨ cl.slots.size ≤ j.toNatClampNeg)) (hv : cl.slots[j.toNatClampNeg]? = some v) (hd : decode code pc = .ok (.aaload, 1)) (hq : pc + 1 = q) : Wk κ l Z own nm code ml ret R n0 h cells slots q Ls (v :: St) := by
  subst hq; exact w.stepX fun hx hby hZ _ X eT k => X.aaload hx (j := j) (v := v) (by rw [eT]; exact A.1) (State.isArrayOf_alike hZ.alike A.2.1) hty A.2.2 hj hv (g := mkF _ pc Ls _) rfl rfl (hb hby hd) _ k
theorem Wk.len {a : Nat} {z : Int32} (w : Wk κ l Z own nm code ml ret R n0 h cells slots pc Ls (.ref a :: St)) {cl : Cell} {ty : FieldType} (A : Arr Z h a cl ty) (hz : cl.slots.size.toInt32 = z) (hd : decode code pc = .ok (.arraylength, 1)) (hq : pc + 1 = q) : Wk κ l Z own nm code ml ret R n0 h cells slots q Ls (.int z :: St) := by
  subst hq hz; exact w.stepX fun hx hby hZ _ X eT k => X.arraylength hx (by rw [eT]; exact A.1) (State.isArrayOf_alike hZ.alike A.2.1) (g := mkF _ pc Ls _) rfl rfl (hb hby hd) _ k
/-! calls -/
theorem Wk.initO {a : Nat} (w : Wk κ l Z own nm code ml ret R n0 h cells slots pc Ls (.ref a :: St)) {i : Nat} (w1 : (Cond.methodLink own i Lib.objectInit).before a0 Z = true) (w2 : (Cond.instanceMethod Lib.objectInit).before a0 Z = true) (w3 : (Cond.code Lib.objectInit ⟨#[0xb1]⟩ 1 none).before a0 Z = true) (hd : decode code pc = .ok (.invokespecial i, 3)) (hsz : Ls.size = ml) (hf : 1 ≤ R.frames) {W : Nat} (hW : (St.map fun v => v.category).sum ≤ W) (hl : W + 12 ≤ R.locals) (hq : pc + 3 = q) : Wk κ l Z own nm code ml ret R n0 h cells slots q Ls St := by
  subst hq; exact w.stepT fun hx hby hml hZ hown X eT => Jvm.RoadKit.initO X hx hZ hown w1 w2 w3 eT (g := mkF _ pc Ls _) rfl (hsz.trans hml.symm) rfl (hb hby hd) hf (W := W) (by show 2 * 0 + _ ≤ _; omega) hl
theorem Wk.callS (w : Wk κ l Z own nm code ml ret R n0 h cells slots pc Ls St) {y : MethodName} {i : Nat} {by0 : ByteArray} {ml' : Nat} {rt : Option FieldType} {rm : Room} {Q : Option Value → Heap → Prop} {argsL rest : List Value} (hM : Met l Z y by0 ml' rt rm n0 argsL.toArray h Q)
    (w1 : (Cond.methodLink own i y).before a0 Z = true) (w2 : (Cond.static y).before a0 Z = true) (w3 : (Cond.initialized y.cls).before a0 Z = true) (w4 : (Cond.code y by0 ml' rt).before a0 Z = true) (hy : y.cls ≠ "java/lang/invoke/MethodHandle" ∧ y.cls ≠ "java/lang/invoke/VarHandle")
    (hd : decode code pc = .ok (.invokestatic i, 3)) (hlen : ∀ sig, parseMethodDescriptor y.desc = some sig → argsL.length = sig.parameters.length) (hst : St = argsL.reverse ++ rest) (hsz : Ls.size = ml) (hf : rm.frames + 1 ≤ R.frames) {W : Nat} (hW : (rest.map fun v => v.category).sum ≤ W) (hl : W + (ml' + 11) + rm.locals ≤ R.locals) (hc : cells + rm.cells ≤ R.cells) (hs : slots + rm.slots ≤ R.slots) (hq : pc + 3 = q) :
    ∃ v h', Q v h' ∧ ∀ St', v.toList ++ rest = St' → Wk κ l Z own nm code ml ret R n0 h' (cells + rm.cells) (slots + rm.slots) q Ls St' := by
  obtain ⟨p, e, s, m, args, below, meth, c, S0⟩ := κ
  obtain ⟨g1, T, locs, X, N, eT, st⟩ := w
  subst hq hst
  have hZ := g1.2.2.2.2.2.2.1
  obtain ⟨v, _, ⟨T', L', k', n'⟩, -, X', ⟨Lc, hQ, l1, y1, z1⟩, st'⟩ := Jvm.LawKit.callS X g1.1 (y := y) g1.2.2.2.2.2.2.2 (mvT hZ w1) (mvT hZ w2) (mvT hZ w3) (mvT hZ w4) hy (backOf (W := W) (Q := fun v h L => Q v h ∧ Fr n0 L) (hM []) hZ w4 w3 hf hl) (g := mkF m pc Ls _) rfl (hsz.trans g1.2.2.1.symm) (argsL := argsL) (rest := rest) hlen rfl (by show 2 * 0 + _ ≤ _; omega) (hb g1.2.1 hd) (fun _ _ => ⟨rfl, eT, hc, hs⟩)
  dsimp only [Pt.U, Pt.locs, Pt.cells, Pt.slots] at X' l1 y1 z1 st' hQ
  subst l1 y1 z1
  exact ⟨v, _, hQ.1, fun St' hS => by subst hS; exact ⟨g1, T', _, X', N.app hQ.2, rfl, fun t k => st t (st' t k)⟩⟩
theorem Wk.callI {a : Nat} (w : Wk κ l Z own nm code ml ret R n0 h cells slots pc Ls St) {y : MethodName} {i : Nat} {by0 : ByteArray} {ml' : Nat} {rm : Room} {Q : Option Value → Heap → Prop} {argsL rest : List Value} (hM : Met l Z y by0 ml' none rm n0 (.ref a :: argsL).toArray h Q) (hy1 : y.name = "<init>")
    (w1 : (Cond.methodLink own i y).before a0 Z = true) (w2 : (Cond.instanceMethod y).before a0 Z = true) (w3 : (Cond.initialized y.cls).before a0 Z = true) (w4 : (Cond.code y by0 ml' none).before a0 Z = true) (hy : y.cls ≠ "java/lang/invoke/MethodHandle" ∧ y.cls ≠ "java/lang/invoke/VarHandle")
    (hd : decode code pc = .ok (.invokespecial i, 3)) (hlen : ∀ sig, parseMethodDescriptor y.desc = some sig → argsL.length = sig.parameters.length) (hst : St = argsL.reverse ++ .ref a :: rest) (hsz : Ls.size = ml) (hf : rm.frames + 1 ≤ R.frames) {W : Nat} (hW : (rest.map fun v => v.category).sum ≤ W) (hl : W + (ml' + 11) + rm.locals ≤ R.locals) (hc : cells + rm.cells ≤ R.cells) (hs : slots + rm.slots ≤ R.slots) (hq : pc + 3 = q) :
    ∃ v h', Q v h' ∧ ∀ St', v.toList ++ rest = St' → Wk κ l Z own nm code ml ret R n0 h' (cells + rm.cells) (slots + rm.slots) q Ls St' := by
  obtain ⟨p, e, s, m, args, below, meth, c, S0⟩ := κ
  obtain ⟨g1, T, locs, X, N, eT, st⟩ := w
  subst hq hst
  have hZ := g1.2.2.2.2.2.2.1
  obtain ⟨v, _, ⟨T', L', k', n'⟩, -, X', ⟨Lc, hQ, l1, y1, z1⟩, st'⟩ := X.specialBack g1.1 (y := y) hy1 g1.2.2.2.2.2.2.2 (mvT hZ w1) (mvT hZ w2) (mvT hZ w4) hy (backOf (W := W) (Q := fun v h L => Q v h ∧ Fr n0 L) (hM []) hZ w4 w3 hf hl) (g := mkF m pc Ls _) rfl (hsz.trans g1.2.2.1.symm) (Steps.refl _) (a := a) (argsL := argsL) (rest := rest) hlen rfl (by show 2 * 0 + _ ≤ _; omega) (hb g1.2.1 hd) (fun _ _ => ⟨rfl, eT, hc, hs⟩)
  dsimp only [Pt.U, Pt.locs, Pt.cells, Pt.slots] at X' l1 y1 z1 st' hQ
  subst l1 y1 z1
  exact ⟨v, _, hQ.1, fun St' hS => by subst hS; exact ⟨g1, T', _, X', N.app hQ.2, rfl, fun t k => st t (st'.trans k)⟩⟩
theorem Wk.callV {a : Nat} (w : Wk κ l Z own nm code ml ret R n0 h cells slots pc Ls St) {y : MethodName} {C : String} {i : Nat} {by0 : ByteArray} {ml' : Nat} {rt : Option FieldType} {rm : Room} {Q : Option Value → Heap → Prop} {argsL rest : List Value} (hM : Met l Z y by0 ml' rt rm n0 (.ref a :: argsL).toArray h Q) (E : Exa Z h a C)
    (w1 : (Cond.methodLink own i y).before a0 Z = true) (w5 : (Cond.declares y).before a0 Z = true) (w6 : (Cond.selects C y y).before a0 Z = true) (w2 : (Cond.instanceMethod y).before a0 Z = true) (w3 : (Cond.initialized y.cls).before a0 Z = true) (w4 : (Cond.code y by0 ml' rt).before a0 Z = true) (hy : y.cls ≠ "java/lang/invoke/MethodHandle" ∧ y.cls ≠ "java/lang/invoke/VarHandle")
    (hd : decode code pc = .ok (.invokevirtual i, 3)) (hlen : ∀ sig, parseMethodDescriptor y.desc = some sig → argsL.length = sig.parameters.length) (hst : St = argsL.reverse ++ .ref a :: rest) (hsz : Ls.size = ml) (hf : rm.frames + 1 ≤ R.frames) {W : Nat} (hW : (rest.map fun v => v.category).sum ≤ W) (hl : W + (ml' + 11) + rm.locals ≤ R.locals) (hc : cells + rm.cells ≤ R.cells) (hs : slots + rm.slots ≤ R.slots) (hq : pc + 3 = q) :
    ∃ v h', Q v h' ∧ ∀ St', v.toList ++ rest = St' → Wk κ l Z own nm code ml ret R n0 h' (cells + rm.cells) (slots + rm.slots) q Ls St' := by
  obtain ⟨p, e, s, m, args, below, meth, c, S0⟩ := κ
  obtain ⟨g1, T, locs, X, N, eT, st⟩ := w
  subst hq hst
  have hZ := g1.2.2.2.2.2.2.1
  obtain ⟨cq, kq, qa, qb, qc⟩ := isOf hZ eT E
  obtain ⟨v, _, ⟨T', L', k', n'⟩, -, X', ⟨Lc, hQ, l1, y1, z1⟩, st'⟩ := X.virtualBack g1.1 (y := y) (z := y) g1.2.2.2.2.2.2.2 (mvT hZ w1) (mvT hZ w5) (notFace_of_selects (args := #[]) (mvT hZ w6)) (mvT hZ w6) (mvT hZ w2) hy (backOf (W := W) (Q := fun v h L => Q v h ∧ Fr n0 L) (hM []) hZ w4 w3 hf hl) qa qc (g := mkF m pc Ls _) rfl (hsz.trans g1.2.2.1.symm) (Steps.refl _) (argsL := argsL) (rest := rest) hlen rfl (by show 2 * 0 + _ ≤ _; omega) (hb g1.2.1 hd) (fun _ _ => ⟨rfl, eT, hc, hs⟩)
  dsimp only [Pt.U, Pt.locs, Pt.cells, Pt.slots] at X' l1 y1 z1 st' hQ
  subst l1 y1 z1
  exact ⟨v, _, hQ.1, fun St' hS => by subst hS; exact ⟨g1, T', _, X', N.app hQ.2, rfl, fun t k => st t (st'.trans k)⟩⟩
end Own
end Jvm.OwnKit
namespace Jvm.Pilot.@@N@@
open Jvm Jvm.ClassFile Sem Op Lib Jvm.Free Jvm.Stand Jvm.LawKit Jvm.RoadKit Jvm.OwnKit Bundle Jvm.Pilot.@@N@@.Jvm.D
theorem pn_0 : plainName "com/example/restab/restab/TypeWidensExactlyToPinLaw" = true := by first | (simp [plainName, overriddenIn]; done) | decide +kernel
theorem pn_1 : plainName "com/example/restab/restab/Type" = true := by first | (simp [plainName, overriddenIn]; done) | decide +kernel
theorem pd_0 : parseMethodDescriptor "(I)Lcom/example/restab/restab/Type;" = some ⟨[.int], (some (.object "com/example/restab/restab/Type"))⟩ := by decide +kernel
theorem pd_1 : parseMethodDescriptor "(I)I" = some ⟨[.int], (some .int)⟩ := by decide +kernel
theorem pd_2 : parseMethodDescriptor "(Lcom/example/restab/restab/Type;)Z" = some ⟨[(.object "com/example/restab/restab/Type")], (some .boolean)⟩ := by decide +kernel
theorem dlm2_0 : decode method_2_code 0 = .ok (.iload_n 0, 1) := by decide +kernel
theorem dlm2_1 : decode method_2_code 1 = .ok (.ifCond .ne 7, 3) := by decide +kernel
theorem dlm2_4 : decode method_2_code 4 = .ok (.getstatic 7, 3) := by decide +kernel
theorem dlm2_7 : decode method_2_code 7 = .ok (.areturn, 1) := by decide +kernel
theorem dlm2_8 : decode method_2_code 8 = .ok (.iload_n 0, 1) := by decide +kernel
theorem dlm2_9 : decode method_2_code 9 = .ok (.iconst 1, 1) := by decide +kernel
theorem dlm2_10 : decode method_2_code 10 = .ok (.if_icmp .ne 7, 3) := by decide +kernel
theorem dlm2_13 : decode method_2_code 13 = .ok (.getstatic 13, 3) := by decide +kernel
theorem dlm2_16 : decode method_2_code 16 = .ok (.areturn, 1) := by decide +kernel
theorem dlm2_17 : decode method_2_code 17 = .ok (.iload_n 0, 1) := by decide +kernel
theorem dlm2_18 : decode method_2_code 18 = .ok (.iconst 2, 1) := by decide +kernel
theorem dlm2_19 : decode method_2_code 19 = .ok (.if_icmp .ne 7, 3) := by decide +kernel
theorem dlm2_22 : decode method_2_code 22 = .ok (.getstatic 16, 3) := by decide +kernel
theorem dlm2_25 : decode method_2_code 25 = .ok (.areturn, 1) := by decide +kernel
theorem dlm2_26 : decode method_2_code 26 = .ok (.iload_n 0, 1) := by decide +kernel
theorem dlm2_27 : decode method_2_code 27 = .ok (.iconst 3, 1) := by decide +kernel
theorem dlm2_28 : decode method_2_code 28 = .ok (.if_icmp .ne 7, 3) := by decide +kernel
theorem dlm2_31 : decode method_2_code 31 = .ok (.getstatic 19, 3) := by decide +kernel
theorem dlm2_34 : decode method_2_code 34 = .ok (.areturn, 1) := by decide +kernel
theorem dlm2_35 : decode method_2_code 35 = .ok (.iload_n 0, 1) := by decide +kernel
theorem dlm2_36 : decode method_2_code 36 = .ok (.iconst 4, 1) := by decide +kernel
theorem dlm2_37 : decode method_2_code 37 = .ok (.if_icmp .ne 7, 3) := by decide +kernel
theorem dlm2_40 : decode method_2_code 40 = .ok (.getstatic 22, 3) := by decide +kernel
theorem dlm2_43 : decode method_2_code 43 = .ok (.areturn, 1) := by decide +kernel
theorem dlm2_44 : decode method_2_code 44 = .ok (.iload_n 0, 1) := by decide +kernel
theorem dlm2_45 : decode method_2_code 45 = .ok (.iconst 5, 1) := by decide +kernel
theorem dlm2_46 : decode method_2_code 46 = .ok (.if_icmp .ne 7, 3) := by decide +kernel
theorem dlm2_49 : decode method_2_code 49 = .ok (.getstatic 25, 3) := by decide +kernel
theorem dlm2_52 : decode method_2_code 52 = .ok (.areturn, 1) := by decide +kernel
theorem dlm2_53 : decode method_2_code 53 = .ok (.iload_n 0, 1) := by decide +kernel
theorem dlm2_54 : decode method_2_code 54 = .ok (.bipush 6, 2) := by decide +kernel
theorem dlm2_56 : decode method_2_code 56 = .ok (.if_icmp .ne 7, 3) := by decide +kernel
theorem dlm2_59 : decode method_2_code 59 = .ok (.getstatic 28, 3) := by decide +kernel
theorem dlm2_62 : decode method_2_code 62 = .ok (.areturn, 1) := by decide +kernel
theorem dlm2_63 : decode method_2_code 63 = .ok (.iload_n 0, 1) := by decide +kernel
theorem dlm2_64 : decode method_2_code 64 = .ok (.bipush 7, 2) := by decide +kernel
theorem dlm2_66 : decode method_2_code 66 = .ok (.if_icmp .ne 7, 3) := by decide +kernel
theorem dlm2_69 : decode method_2_code 69 = .ok (.getstatic 31, 3) := by decide +kernel
theorem dlm2_72 : decode method_2_code 72 = .ok (.areturn, 1) := by decide +kernel
theorem dlm2_73 : decode method_2_code 73 = .ok (.iload_n 0, 1) := by decide +kernel
theorem dlm2_74 : decode method_2_code 74 = .ok (.bipush 8, 2) := by decide +kernel
theorem dlm2_76 : decode method_2_code 76 = .ok (.if_icmp .ne 7, 3) := by decide +kernel
theorem dlm2_79 : decode method_2_code 79 = .ok (.getstatic 34, 3) := by decide +kernel
theorem dlm2_82 : decode method_2_code 82 = .ok (.areturn, 1) := by decide +kernel
theorem dlm2_83 : decode method_2_code 83 = .ok (.iload_n 0, 1) := by decide +kernel
theorem dlm2_84 : decode method_2_code 84 = .ok (.bipush 9, 2) := by decide +kernel
theorem dlm2_86 : decode method_2_code 86 = .ok (.if_icmp .ne 7, 3) := by decide +kernel
theorem dlm2_89 : decode method_2_code 89 = .ok (.getstatic 37, 3) := by decide +kernel
theorem dlm2_92 : decode method_2_code 92 = .ok (.areturn, 1) := by decide +kernel
theorem dlm2_93 : decode method_2_code 93 = .ok (.iload_n 0, 1) := by decide +kernel
theorem dlm2_94 : decode method_2_code 94 = .ok (.bipush 10, 2) := by decide +kernel
theorem dlm2_96 : decode method_2_code 96 = .ok (.if_icmp .ne 7, 3) := by decide +kernel
theorem dlm2_99 : decode method_2_code 99 = .ok (.getstatic 40, 3) := by decide +kernel
theorem dlm2_102 : decode method_2_code 102 = .ok (.areturn, 1) := by decide +kernel
theorem dlm2_103 : decode method_2_code 103 = .ok (.iload_n 0, 1) := by decide +kernel
theorem dlm2_104 : decode method_2_code 104 = .ok (.bipush 11, 2) := by decide +kernel
theorem dlm2_106 : decode method_2_code 106 = .ok (.if_icmp .ne 7, 3) := by decide +kernel
theorem dlm2_109 : decode method_2_code 109 = .ok (.getstatic 43, 3) := by decide +kernel
theorem dlm2_112 : decode method_2_code 112 = .ok (.areturn, 1) := by decide +kernel
theorem dlm2_113 : decode method_2_code 113 = .ok (.getstatic 46, 3) := by decide +kernel
theorem dlm2_116 : decode method_2_code 116 = .ok (.areturn, 1) := by decide +kernel
theorem dlm3_0 : decode method_3_code 0 = .ok (.iload_n 0, 1) := by decide +kernel
theorem dlm3_1 : decode method_3_code 1 = .ok (.ifCond .eq 8, 3) := by decide +kernel
theorem dlm3_4 : decode method_3_code 4 = .ok (.iload_n 0, 1) := by decide +kernel
theorem dlm3_5 : decode method_3_code 5 = .ok (.iconst 1, 1) := by decide +kernel
theorem dlm3_6 : decode method_3_code 6 = .ok (.if_icmp .ne 5, 3) := by decide +kernel
theorem dlm3_9 : decode method_3_code 9 = .ok (.iconst 1, 1) := by decide +kernel
theorem dlm3_10 : decode method_3_code 10 = .ok (.ireturn, 1) := by decide +kernel
theorem dlm3_11 : decode method_3_code 11 = .ok (.iload_n 0, 1) := by decide +kernel
theorem dlm3_12 : decode method_3_code 12 = .ok (.iconst 3, 1) := by decide +kernel
theorem dlm3_13 : decode method_3_code 13 = .ok (.if_icmp .eq 8, 3) := by decide +kernel
theorem dlm3_16 : decode method_3_code 16 = .ok (.iload_n 0, 1) := by decide +kernel
theorem dlm3_17 : decode method_3_code 17 = .ok (.iconst 4, 1) := by decide +kernel
theorem dlm3_18 : decode method_3_code 18 = .ok (.if_icmp .ne 5, 3) := by decide +kernel
theorem dlm3_21 : decode method_3_code 21 = .ok (.iconst 2, 1) := by decide +kernel
theorem dlm3_22 : decode method_3_code 22 = .ok (.ireturn, 1) := by decide +kernel
theorem dlm3_23 : decode method_3_code 23 = .ok (.iconst 0, 1) := by decide +kernel
theorem dlm3_24 : decode method_3_code 24 = .ok (.ireturn, 1) := by decide +kernel
theorem dp191m21_0 : decode prog_191_method_21_code 0 = .ok (.aload_n 0, 1) := by decide +kernel
theorem dp191m21_1 : decode prog_191_method_21_code 1 = .ok (.getstatic 3, 3) := by decide +kernel
theorem dp191m21_4 : decode prog_191_method_21_code 4 = .ok (.if_acmp .ne 10, 3) := by decide +kernel
theorem dp191m21_7 : decode prog_191_method_21_code 7 = .ok (.aload_n 1, 1) := by decide +kernel
theorem dp191m21_8 : decode prog_191_method_21_code 8 = .ok (.getstatic 7, 3) := by decide +kernel
theorem dp191m21_11 : decode prog_191_method_21_code 11 = .ok (.if_acmp .eq 17, 3) := by decide +kernel
theorem dp191m21_14 : decode prog_191_method_21_code 14 = .ok (.aload_n 0, 1) := by decide +kernel
theorem dp191m21_15 : decode prog_191_method_21_code 15 = .ok (.getstatic 13, 3) := by decide +kernel
theorem dp191m21_18 : decode prog_191_method_21_code 18 = .ok (.if_acmp .ne 14, 3) := by decide +kernel
theorem dp191m21_21 : decode prog_191_method_21_code 21 = .ok (.aload_n 1, 1) := by decide +kernel
theorem dp191m21_22 : decode prog_191_method_21_code 22 = .ok (.getstatic 16, 3) := by decide +kernel
theorem dp191m21_25 : decode prog_191_method_21_code 25 = .ok (.if_acmp .ne 7, 3) := by decide +kernel
theorem dp191m21_28 : decode prog_191_method_21_code 28 = .ok (.iconst 1, 1) := by decide +kernel
theorem dp191m21_29 : decode prog_191_method_21_code 29 = .ok (.goto 4, 3) := by decide +kernel
theorem dp191m21_32 : decode prog_191_method_21_code 32 = .ok (.iconst 0, 1) := by decide +kernel
theorem dp191m21_33 : decode prog_191_method_21_code 33 = .ok (.ireturn, 1) := by decide +kernel
def Stas (Z : State) (h : Heap) (t : Nat → Nat) : Prop := Sta Z h "com/example/restab/restab/Type" "INTEGER" "Lcom/example/restab/restab/Type;" (.ref (t 0)) ∧ Sta Z h "com/example/restab/restab/Type" "BIGINT" "Lcom/example/restab/restab/Type;" (.ref (t 1)) ∧ Sta Z h "com/example/restab/restab/Type" "NUMERIC" "Lcom/example/restab/restab/Type;" (.ref (t 2)) ∧ Sta Z h "com/example/restab/restab/Type" "REAL" "Lcom/example/restab/restab/Type;" (.ref (t 3)) ∧ Sta Z h "com/example/restab/restab/Type" "DOUBLE" "Lcom/example/restab/restab/Type;" (.ref (t 4)) ∧ Sta Z h "com/example/restab/restab/Type" "TEXT" "Lcom/example/restab/restab/Type;" (.ref (t 5)) ∧ Sta Z h "com/example/restab/restab/Type" "VARCHAR" "Lcom/example/restab/restab/Type;" (.ref (t 6)) ∧ Sta Z h "com/example/restab/restab/Type" "CHAR" "Lcom/example/restab/restab/Type;" (.ref (t 7)) ∧ Sta Z h "com/example/restab/restab/Type" "BOOLEAN" "Lcom/example/restab/restab/Type;" (.ref (t 8)) ∧ Sta Z h "com/example/restab/restab/Type" "DATE" "Lcom/example/restab/restab/Type;" (.ref (t 9)) ∧ Sta Z h "com/example/restab/restab/Type" "OID" "Lcom/example/restab/restab/Type;" (.ref (t 10)) ∧ Sta Z h "com/example/restab/restab/Type" "REGCLASS" "Lcom/example/restab/restab/Type;" (.ref (t 11)) ∧ Sta Z h "com/example/restab/restab/Type" "UNKNOWN" "Lcom/example/restab/restab/Type;" (.ref (t 12))
theorem own_mask (x : Int32) : 0 ≤ (x &&& (2147483647 : Int32)).toInt := by
  have h := c_mask x 2147483647 31 (by decide) (by decide)
  have : (0 : Int) < ((2 ^ 31 : Nat) : Int) := by decide
  omega
theorem own_rem {z a : Int32} (h : 0 ≤ z.toInt) (e : z % (13 : Int32) = a) : 0 ≤ a.toInt ∧ a.toInt ≤ 12 := by
  have h1 : a.toInt = z.toInt.tmod 13 := by rw [← e, Int32.toInt_mod]; rfl
  have h2 := Int.tmod_nonneg 13 h
  have h3 := Int.tmod_lt_of_pos z.toInt (show (0 : Int) < 13 by decide)
  omega
set_option maxRecDepth 65536 in
set_option maxHeartbeats 40000000 in
theorem own_ta (l : Launch) (Z : State) (a0 : Array Value) (hw : ∀ d ∈ tables_1, d.before a0 Z = true) (h0 : Heap) (n0 : Nat) (Z0 : n0 ≤ h0.size) (t : Nat → Nat) (k : Int32) (hS : Stas Z h0 t) (k0 : 0 ≤ k.toInt) (k1 : k.toInt ≤ 12) :
    Met l Z (⟨"com/example/restab/restab/TypeWidensExactlyToPinLaw", "typeAt", "(I)Lcom/example/restab/restab/Type;"⟩ : MethodName) method_2_code 1 (some (.object "com/example/restab/restab/Type")) ({ frames := 0, cells := 0, slots := 0, locals := 0 } : Room) n0 #[(.int k)] h0 (fun v h => h = h0 ∧ ∃ i : Nat, v = some (.ref (t i)) ∧ k.toInt = i) := by
  refine Met.of (Ls := #[.val (.int k)]) (plainFor_of_name pn_0) (fun m => by first | (simp [entryFrame, mkF, argsToLocals, Value.category, maxLocals]; done) | rfl) (fun κ w => ?_)
  replace w : Wk κ l Z "com/example/restab/restab/TypeWidensExactlyToPinLaw" "typeAt" method_2_code 1 (some (.object "com/example/restab/restab/Type")) ({ frames := 0, cells := 0, slots := 0, locals := 0 } : Room) n0 h0 0 0 0 #[.val (.int k)] [] := w
  replace w := w.iloadN (q := 1) (v := k) dlm2_0 rfl rfl
  rcases w.ifNe (q := 8) (q' := 4) (xi := k.toInt) dlm2_1 rfl (by decide) (by decide) rfl with ⟨hc1, w⟩ | ⟨hc1, w⟩
  · replace w := w.iloadN (q := 9) (v := k) dlm2_8 rfl rfl
    replace w := w.iconst (q := 10) (z := (1 : Int32)) dlm2_9 (by decide) rfl
    rcases w.icmpNe (q := 17) (q' := 13) (xi := k.toInt) (yi := 1) dlm2_10 rfl rfl (by decide) (by decide) rfl with ⟨hc10, w⟩ | ⟨hc10, w⟩
    · replace w := w.iloadN (q := 18) (v := k) dlm2_17 rfl rfl
      replace w := w.iconst (q := 19) (z := (2 : Int32)) dlm2_18 (by decide) rfl
      rcases w.icmpNe (q := 26) (q' := 22) (xi := k.toInt) (yi := 2) dlm2_19 rfl rfl (by decide) (by decide) rfl with ⟨hc19, w⟩ | ⟨hc19, w⟩
      · replace w := w.iloadN (q := 27) (v := k) dlm2_26 rfl rfl
        replace w := w.iconst (q := 28) (z := (3 : Int32)) dlm2_27 (by decide) rfl
        rcases w.icmpNe (q := 35) (q' := 31) (xi := k.toInt) (yi := 3) dlm2_28 rfl rfl (by decide) (by decide) rfl with ⟨hc28, w⟩ | ⟨hc28, w⟩
        · replace w := w.iloadN (q := 36) (v := k) dlm2_35 rfl rfl
          replace w := w.iconst (q := 37) (z := (4 : Int32)) dlm2_36 (by decide) rfl
          rcases w.icmpNe (q := 44) (q' := 40) (xi := k.toInt) (yi := 4) dlm2_37 rfl rfl (by decide) (by decide) rfl with ⟨hc37, w⟩ | ⟨hc37, w⟩
          · replace w := w.iloadN (q := 45) (v := k) dlm2_44 rfl rfl
            replace w := w.iconst (q := 46) (z := (5 : Int32)) dlm2_45 (by decide) rfl
            rcases w.icmpNe (q := 53) (q' := 49) (xi := k.toInt) (yi := 5) dlm2_46 rfl rfl (by decide) (by decide) rfl with ⟨hc46, w⟩ | ⟨hc46, w⟩
            · replace w := w.iloadN (q := 54) (v := k) dlm2_53 rfl rfl
              replace w := w.bipush (q := 56) (z := (6 : Int32)) dlm2_54 (by decide) rfl
              rcases w.icmpNe (q := 63) (q' := 59) (xi := k.toInt) (yi := 6) dlm2_56 rfl rfl (by decide) (by decide) rfl with ⟨hc56, w⟩ | ⟨hc56, w⟩
              · replace w := w.iloadN (q := 64) (v := k) dlm2_63 rfl rfl
                replace w := w.bipush (q := 66) (z := (7 : Int32)) dlm2_64 (by decide) rfl
                rcases w.icmpNe (q := 73) (q' := 69) (xi := k.toInt) (yi := 7) dlm2_66 rfl rfl (by decide) (by decide) rfl with ⟨hc66, w⟩ | ⟨hc66, w⟩
                · replace w := w.iloadN (q := 74) (v := k) dlm2_73 rfl rfl
                  replace w := w.bipush (q := 76) (z := (8 : Int32)) dlm2_74 (by decide) rfl
                  rcases w.icmpNe (q := 83) (q' := 79) (xi := k.toInt) (yi := 8) dlm2_76 rfl rfl (by decide) (by decide) rfl with ⟨hc76, w⟩ | ⟨hc76, w⟩
                  · replace w := w.iloadN (q := 84) (v := k) dlm2_83 rfl rfl
                    replace w := w.bipush (q := 86) (z := (9 : Int32)) dlm2_84 (by decide) rfl
                    rcases w.icmpNe (q := 93) (q' := 89) (xi := k.toInt) (yi := 9) dlm2_86 rfl rfl (by decide) (by decide) rfl with ⟨hc86, w⟩ | ⟨hc86, w⟩
                    · replace w := w.iloadN (q := 94) (v := k) dlm2_93 rfl rfl
                      replace w := w.bipush (q := 96) (z := (10 : Int32)) dlm2_94 (by decide) rfl
                      rcases w.icmpNe (q := 103) (q' := 99) (xi := k.toInt) (yi := 10) dlm2_96 rfl rfl (by decide) (by decide) rfl with ⟨hc96, w⟩ | ⟨hc96, w⟩
                      · replace w := w.iloadN (q := 104) (v := k) dlm2_103 rfl rfl
                        replace w := w.bipush (q := 106) (z := (11 : Int32)) dlm2_104 (by decide) rfl
                        rcases w.icmpNe (q := 113) (q' := 109) (xi := k.toInt) (yi := 11) dlm2_106 rfl rfl (by decide) (by decide) rfl with ⟨hc106, w⟩ | ⟨hc106, w⟩
                        · replace w := w.getS (q := 116) (v := (.ref (t 12))) (hw _ (List.mem_of_getElem? (i := 36) rfl)) ((hS.2.2.2.2.2.2.2.2.2.2.2.2)) dlm2_113 rfl
                          exact w.retA dlm2_116 rfl rfl rfl ⟨rfl, 12, rfl, by omega⟩ (by decide) (by decide)
                        · replace w := w.getS (q := 112) (v := (.ref (t 11))) (hw _ (List.mem_of_getElem? (i := 40) rfl)) ((hS.2.2.2.2.2.2.2.2.2.2.2.1)) dlm2_109 rfl
                          exact w.retA dlm2_112 rfl rfl rfl ⟨rfl, 11, rfl, by omega⟩ (by decide) (by decide)
                      · replace w := w.getS (q := 102) (v := (.ref (t 10))) (hw _ (List.mem_of_getElem? (i := 34) rfl)) ((hS.2.2.2.2.2.2.2.2.2.2.1)) dlm2_99 rfl
                        exact w.retA dlm2_102 rfl rfl rfl ⟨rfl, 10, rfl, by omega⟩ (by decide) (by decide)
                    · replace w := w.getS (q := 92) (v := (.ref (t 9))) (hw _ (List.mem_of_getElem? (i := 26) rfl)) ((hS.2.2.2.2.2.2.2.2.2.1)) dlm2_89 rfl
                      exact w.retA dlm2_92 rfl rfl rfl ⟨rfl, 9, rfl, by omega⟩ (by decide) (by decide)
                  · replace w := w.getS (q := 82) (v := (.ref (t 8))) (hw _ (List.mem_of_getElem? (i := 32) rfl)) ((hS.2.2.2.2.2.2.2.2.1)) dlm2_79 rfl
                    exact w.retA dlm2_82 rfl rfl rfl ⟨rfl, 8, rfl, by omega⟩ (by decide) (by decide)
                · replace w := w.getS (q := 72) (v := (.ref (t 7))) (hw _ (List.mem_of_getElem? (i := 42) rfl)) ((hS.2.2.2.2.2.2.2.1)) dlm2_69 rfl
                  exact w.retA dlm2_72 rfl rfl rfl ⟨rfl, 7, rfl, by omega⟩ (by decide) (by decide)
              · replace w := w.getS (q := 62) (v := (.ref (t 6))) (hw _ (List.mem_of_getElem? (i := 30) rfl)) ((hS.2.2.2.2.2.2.1)) dlm2_59 rfl
                exact w.retA dlm2_62 rfl rfl rfl ⟨rfl, 6, rfl, by omega⟩ (by decide) (by decide)
            · replace w := w.getS (q := 52) (v := (.ref (t 5))) (hw _ (List.mem_of_getElem? (i := 28) rfl)) ((hS.2.2.2.2.2.1)) dlm2_49 rfl
              exact w.retA dlm2_52 rfl rfl rfl ⟨rfl, 5, rfl, by omega⟩ (by decide) (by decide)
          · replace w := w.getS (q := 43) (v := (.ref (t 4))) (hw _ (List.mem_of_getElem? (i := 23) rfl)) ((hS.2.2.2.2.1)) dlm2_40 rfl
            exact w.retA dlm2_43 rfl rfl rfl ⟨rfl, 4, rfl, by omega⟩ (by decide) (by decide)
        · replace w := w.getS (q := 34) (v := (.ref (t 3))) (hw _ (List.mem_of_getElem? (i := 8) rfl)) ((hS.2.2.2.1)) dlm2_31 rfl
          exact w.retA dlm2_34 rfl rfl rfl ⟨rfl, 3, rfl, by omega⟩ (by decide) (by decide)
      · replace w := w.getS (q := 25) (v := (.ref (t 2))) (hw _ (List.mem_of_getElem? (i := 38) rfl)) ((hS.2.2.1)) dlm2_22 rfl
        exact w.retA dlm2_25 rfl rfl rfl ⟨rfl, 2, rfl, by omega⟩ (by decide) (by decide)
    · replace w := w.getS (q := 16) (v := (.ref (t 1))) (hw _ (List.mem_of_getElem? (i := 22) rfl)) ((hS.2.1)) dlm2_13 rfl
      exact w.retA dlm2_16 rfl rfl rfl ⟨rfl, 1, rfl, by omega⟩ (by decide) (by decide)
  · replace w := w.getS (q := 7) (v := (.ref (t 0))) (hw _ (List.mem_of_getElem? (i := 5) rfl)) ((hS.1)) dlm2_4 rfl
    exact w.retA dlm2_7 rfl rfl rfl ⟨rfl, 0, rfl, by omega⟩ (by decide) (by decide)
set_option maxRecDepth 65536 in
set_option maxHeartbeats 40000000 in
theorem own_fa (l : Launch) (Z : State) (a0 : Array Value) (hw : ∀ d ∈ tables_1, d.before a0 Z = true) (h0 : Heap) (n0 : Nat) (Z0 : n0 ≤ h0.size) (k : Int32) :
    Met l Z (⟨"com/example/restab/restab/TypeWidensExactlyToPinLaw", "family", "(I)I"⟩ : MethodName) method_3_code 1 (some .int) ({ frames := 0, cells := 0, slots := 0, locals := 0 } : Room) n0 #[(.int k)] h0 (fun v h => h = h0 ∧ ∃ r : Int32, v = some (.int r) ∧ ((k.toInt = 0 ∨ k.toInt = 1) ∧ r.toInt = 1 ∨ (k.toInt = 3 ∨ k.toInt = 4) ∧ r.toInt = 2 ∨ ¬ (k.toInt = 0 ∨ k.toInt = 1 ∨ k.toInt = 3 ∨ k.toInt = 4) ∧ r.toInt = 0)) := by
  refine Met.of (Ls := #[.val (.int k)]) (plainFor_of_name pn_0) (fun m => by first | (simp [entryFrame, mkF, argsToLocals, Value.category, maxLocals]; done) | rfl) (fun κ w => ?_)
  replace w : Wk κ l Z "com/example/restab/restab/TypeWidensExactlyToPinLaw" "family" method_3_code 1 (some .int) ({ frames := 0, cells := 0, slots := 0, locals := 0 } : Room) n0 h0 0 0 0 #[.val (.int k)] [] := w
  replace w := w.iloadN (q := 1) (v := k) dlm3_0 rfl rfl
  rcases w.ifEq (q := 9) (q' := 4) (xi := k.toInt) dlm3_1 rfl (by decide) (by decide) rfl with ⟨hc1, w⟩ | ⟨hc1, w⟩
  · replace w := w.iconst (q := 10) (z := (1 : Int32)) dlm3_9 (by decide) rfl
    exact w.retI dlm3_10 ⟨rfl, _, rfl, by have h1 : (1 : Int32).toInt = 1 := rfl; omega⟩ (by decide) (by decide)
  · replace w := w.iloadN (q := 5) (v := k) dlm3_4 rfl rfl
    replace w := w.iconst (q := 6) (z := (1 : Int32)) dlm3_5 (by decide) rfl
    rcases w.icmpNe (q := 11) (q' := 9) (xi := k.toInt) (yi := 1) dlm3_6 rfl rfl (by decide) (by decide) rfl with ⟨hc6, w⟩ | ⟨hc6, w⟩
    · replace w := w.iloadN (q := 12) (v := k) dlm3_11 rfl rfl
      replace w := w.iconst (q := 13) (z := (3 : Int32)) dlm3_12 (by decide) rfl
      rcases w.icmpEq (q := 21) (q' := 16) (xi := k.toInt) (yi := 3) dlm3_13 rfl rfl (by decide) (by decide) rfl with ⟨hc13, w⟩ | ⟨hc13, w⟩
      · replace w := w.iconst (q := 22) (z := (2 : Int32)) dlm3_21 (by decide) rfl
        exact w.retI dlm3_22 ⟨rfl, _, rfl, by have h1 : (2 : Int32).toInt = 2 := rfl; omega⟩ (by decide) (by decide)
      · replace w := w.iloadN (q := 17) (v := k) dlm3_16 rfl rfl
        replace w := w.iconst (q := 18) (z := (4 : Int32)) dlm3_17 (by decide) rfl
        rcases w.icmpNe (q := 23) (q' := 21) (xi := k.toInt) (yi := 4) dlm3_18 rfl rfl (by decide) (by decide) rfl with ⟨hc18, w⟩ | ⟨hc18, w⟩
        · replace w := w.iconst (q := 24) (z := (0 : Int32)) dlm3_23 (by decide) rfl
          exact w.retI dlm3_24 ⟨rfl, _, rfl, by have h1 : (0 : Int32).toInt = 0 := rfl; omega⟩ (by decide) (by decide)
        · replace w := w.iconst (q := 22) (z := (2 : Int32)) dlm3_21 (by decide) rfl
          exact w.retI dlm3_22 ⟨rfl, _, rfl, by have h1 : (2 : Int32).toInt = 2 := rfl; omega⟩ (by decide) (by decide)
    · replace w := w.iconst (q := 10) (z := (1 : Int32)) dlm3_9 (by decide) rfl
      exact w.retI dlm3_10 ⟨rfl, _, rfl, by have h1 : (1 : Int32).toInt = 1 := rfl; omega⟩ (by decide) (by decide)
set_option maxRecDepth 65536 in
set_option maxHeartbeats 40000000 in
theorem own_wi (l : Launch) (Z : State) (a0 : Array Value) (hw : ∀ d ∈ tables_1, d.before a0 Z = true) (h0 : Heap) (n0 : Nat) (Z0 : n0 ≤ h0.size) (t : Nat → Nat) (i j : Nat) (hS : Stas Z h0 t) (e0 : t i = t 0 ↔ i = 0) (e1 : t j = t 1 ↔ j = 1) (e3 : t i = t 3 ↔ i = 3) (e4 : t j = t 4 ↔ j = 4) :
    Met l Z (⟨"com/example/restab/restab/Type", "widensExactlyTo", "(Lcom/example/restab/restab/Type;)Z"⟩ : MethodName) prog_191_method_21_code 2 (some .boolean) ({ frames := 0, cells := 0, slots := 0, locals := 0 } : Room) n0 #[(.ref (t i)), (.ref (t j))] h0 (fun v h => h = h0 ∧ ∃ r : Int32, v = some (.int r) ∧ ((i = 0 ∧ j = 1 ∨ i = 3 ∧ j = 4) ∧ r.toInt = 1 ∨ ¬ (i = 0 ∧ j = 1 ∨ i = 3 ∧ j = 4) ∧ r.toInt = 0)) := by
  refine Met.of (Ls := #[.val (.ref (t i)), .val (.ref (t j))]) (plainFor_of_name pn_1) (fun m => by first | (simp [entryFrame, mkF, argsToLocals, Value.category, maxLocals]; done) | rfl) (fun κ w => ?_)
  replace w : Wk κ l Z "com/example/restab/restab/Type" "widensExactlyTo" prog_191_method_21_code 2 (some .boolean) ({ frames := 0, cells := 0, slots := 0, locals := 0 } : Room) n0 h0 0 0 0 #[.val (.ref (t i)), .val (.ref (t j))] [] := w
  replace w := w.aloadN (q := 1) (v := (.ref (t i))) dp191m21_0 rfl rfl rfl
  replace w := w.getS (q := 4) (v := (.ref (t 0))) (hw _ (List.mem_of_getElem? (i := 18) rfl)) ((hS.1)) dp191m21_1 rfl
  rcases w.acmpNeR (q := 14) (q' := 7) dp191m21_4 (by decide) (by decide) rfl with ⟨hc4, w⟩ | ⟨hc4, w⟩
  · replace w := w.aloadN (q := 15) (v := (.ref (t i))) dp191m21_14 rfl rfl rfl
    replace w := w.getS (q := 18) (v := (.ref (t 3))) (hw _ (List.mem_of_getElem? (i := 21) rfl)) ((hS.2.2.2.1)) dp191m21_15 rfl
    rcases w.acmpNeR (q := 32) (q' := 21) dp191m21_18 (by decide) (by decide) rfl with ⟨hc18, w⟩ | ⟨hc18, w⟩
    · replace w := w.iconst (q := 33) (z := (0 : Int32)) dp191m21_32 (by decide) rfl
      exact w.retZ dp191m21_33 (z := (0 : Int32)) (by decide) ⟨rfl, _, rfl, by have h1 : (0 : Int32).toInt = 0 := rfl; omega⟩ (by decide) (by decide)
    · replace w := w.aloadN (q := 22) (v := (.ref (t j))) dp191m21_21 rfl rfl rfl
      replace w := w.getS (q := 25) (v := (.ref (t 4))) (hw _ (List.mem_of_getElem? (i := 25) rfl)) ((hS.2.2.2.2.1)) dp191m21_22 rfl
      rcases w.acmpNeR (q := 32) (q' := 28) dp191m21_25 (by decide) (by decide) rfl with ⟨hc25, w⟩ | ⟨hc25, w⟩
      · replace w := w.iconst (q := 33) (z := (0 : Int32)) dp191m21_32 (by decide) rfl
        exact w.retZ dp191m21_33 (z := (0 : Int32)) (by decide) ⟨rfl, _, rfl, by have h1 : (0 : Int32).toInt = 0 := rfl; omega⟩ (by decide) (by decide)
      · replace w := w.iconst (q := 29) (z := (1 : Int32)) dp191m21_28 (by decide) rfl
        replace w := w.goto (q := 33) dp191m21_29 (by decide) (by decide)
        exact w.retZ dp191m21_33 (z := (1 : Int32)) (by decide) ⟨rfl, _, rfl, by have h1 : (1 : Int32).toInt = 1 := rfl; omega⟩ (by decide) (by decide)
  · replace w := w.aloadN (q := 8) (v := (.ref (t j))) dp191m21_7 rfl rfl rfl
    replace w := w.getS (q := 11) (v := (.ref (t 1))) (hw _ (List.mem_of_getElem? (i := 19) rfl)) ((hS.2.1)) dp191m21_8 rfl
    rcases w.acmpEqR (q := 28) (q' := 14) dp191m21_11 (by decide) (by decide) rfl with ⟨hc11, w⟩ | ⟨hc11, w⟩
    · replace w := w.iconst (q := 29) (z := (1 : Int32)) dp191m21_28 (by decide) rfl
      replace w := w.goto (q := 33) dp191m21_29 (by decide) (by decide)
      exact w.retZ dp191m21_33 (z := (1 : Int32)) (by decide) ⟨rfl, _, rfl, by have h1 : (1 : Int32).toInt = 1 := rfl; omega⟩ (by decide) (by decide)
    · replace w := w.aloadN (q := 15) (v := (.ref (t i))) dp191m21_14 rfl rfl rfl
      replace w := w.getS (q := 18) (v := (.ref (t 3))) (hw _ (List.mem_of_getElem? (i := 21) rfl)) ((hS.2.2.2.1)) dp191m21_15 rfl
      rcases w.acmpNeR (q := 32) (q' := 21) dp191m21_18 (by decide) (by decide) rfl with ⟨hc18, w⟩ | ⟨hc18, w⟩
      · replace w := w.iconst (q := 33) (z := (0 : Int32)) dp191m21_32 (by decide) rfl
        exact w.retZ dp191m21_33 (z := (0 : Int32)) (by decide) ⟨rfl, _, rfl, by have h1 : (0 : Int32).toInt = 0 := rfl; omega⟩ (by decide) (by decide)
      · replace w := w.aloadN (q := 22) (v := (.ref (t j))) dp191m21_21 rfl rfl rfl
        replace w := w.getS (q := 25) (v := (.ref (t 4))) (hw _ (List.mem_of_getElem? (i := 25) rfl)) ((hS.2.2.2.2.1)) dp191m21_22 rfl
        rcases w.acmpNeR (q := 32) (q' := 28) dp191m21_25 (by decide) (by decide) rfl with ⟨hc25, w⟩ | ⟨hc25, w⟩
        · replace w := w.iconst (q := 33) (z := (0 : Int32)) dp191m21_32 (by decide) rfl
          exact w.retZ dp191m21_33 (z := (0 : Int32)) (by decide) ⟨rfl, _, rfl, by have h1 : (0 : Int32).toInt = 0 := rfl; omega⟩ (by decide) (by decide)
        · replace w := w.iconst (q := 29) (z := (1 : Int32)) dp191m21_28 (by decide) rfl
          replace w := w.goto (q := 33) dp191m21_29 (by decide) (by decide)
          exact w.retZ dp191m21_33 (z := (1 : Int32)) (by decide) ⟨rfl, _, rfl, by have h1 : (1 : Int32).toInt = 1 := rfl; omega⟩ (by decide) (by decide)
set_option maxRecDepth 65536 in
set_option maxHeartbeats 40000000 in
theorem own_law (l : Launch) (Z : State) (a0 : Array Value) (hw : ∀ d ∈ tables_1, d.before a0 Z = true) (h0 : Heap) (n0 : Nat) (Z0 : n0 ≤ h0.size) (x0 x1 : Int32) (t : Nat → Nat) (hS : Stas Z h0 t) (hE : ∀ i, i ≤ 12 → Exa Z h0 (t i) "com/example/restab/restab/Type") (hI : ∀ i j, i ≤ 12 → j ≤ 12 → (t i = t j ↔ i = j)) :
    Met l Z x code maxLocals ret room_1 n0 #[(.int x0), (.int x1)] h0 (fun v _ => v = some (.int 1)) := by
  refine Met.of (Ls := #[.val (.int x0), .val (.int x1), .unset, .unset, .unset, .unset, .unset]) (plainFor_of_name pn_0) (fun m => by first | (simp [entryFrame, mkF, argsToLocals, Value.category, maxLocals]; done) | rfl) (fun κ w => ?_)
  replace w : Wk κ l Z "com/example/restab/restab/TypeWidensExactlyToPinLaw" "law" code 7 (some .boolean) room_1 n0 h0 0 0 0 #[.val (.int x0), .val (.int x1), .unset, .unset, .unset, .unset, .unset] [] := w
  replace w := w.iloadN (q := 1) (v := x0) at_0 rfl rfl
  replace w := w.ldcI (q := 3) (z := (2147483647 : Int32)) (hw _ (List.mem_of_getElem? (i := 0) rfl)) at_1 rfl
  obtain ⟨za, hza⟩ : ∃ z : Int32, x0 &&& (2147483647 : Int32) = z := ⟨_, rfl⟩
  replace w := w.iand (q := 4) at_3 hza rfl
  replace w := w.bipush (q := 6) (z := (13 : Int32)) at_4 (by decide) rfl
  obtain ⟨a, ha⟩ : ∃ z : Int32, za % (13 : Int32) = z := ⟨_, rfl⟩
  replace w := w.irem (q := 7) at_6 (by decide) ha rfl
  have a_b := own_rem (z := za) (a := a) (by rw [← hza]; exact own_mask _) ha
  replace w := w.istoreN (q := 8) (l' := #[.val (.int x0), .val (.int x1), .val (.int a), .unset, .unset, .unset, .unset]) at_7 rfl rfl
  replace w := w.iloadN (q := 9) (v := x1) at_8 rfl rfl
  replace w := w.ldcI (q := 11) (z := (2147483647 : Int32)) (hw _ (List.mem_of_getElem? (i := 0) rfl)) at_9 rfl
  obtain ⟨zb, hzb⟩ : ∃ z : Int32, x1 &&& (2147483647 : Int32) = z := ⟨_, rfl⟩
  replace w := w.iand (q := 12) at_11 hzb rfl
  replace w := w.bipush (q := 14) (z := (13 : Int32)) at_12 (by decide) rfl
  obtain ⟨b, hb⟩ : ∃ z : Int32, zb % (13 : Int32) = z := ⟨_, rfl⟩
  replace w := w.irem (q := 15) at_14 (by decide) hb rfl
  have b_b := own_rem (z := zb) (a := b) (by rw [← hzb]; exact own_mask _) hb
  replace w := w.istoreN (q := 16) (l' := #[.val (.int x0), .val (.int x1), .val (.int a), .val (.int b), .unset, .unset, .unset]) at_15 rfl rfl
  replace w := w.iloadN (q := 17) (v := a) at_16 rfl rfl
  obtain ⟨_, _, ⟨eh, i, rfl, hi⟩, w⟩ := w.callS (y := (⟨"com/example/restab/restab/TypeWidensExactlyToPinLaw", "typeAt", "(I)Lcom/example/restab/restab/Type;"⟩ : MethodName)) (argsL := [(.int a)]) (rest := []) (own_ta l Z a0 hw h0 n0 Z0 t a hS a_b.1 a_b.2) (hw _ (List.mem_of_getElem? (i := 1) rfl)) (hw _ (List.mem_of_getElem? (i := 2) rfl)) (hw _ (List.mem_of_getElem? (i := 3) rfl)) (hw _ (List.mem_of_getElem? (i := 4) rfl)) (by decide) at_17 (lenOf pd_0 rfl) rfl rfl (by decide) (W := 0) (Nat.le_of_eq rfl) (by decide) (by decide) (by decide) (q := 20) rfl
  rw [eh] at w
  replace w := w [(.ref (t i))] rfl
  replace w := w.astore (q := 22) (l' := #[.val (.int x0), .val (.int x1), .val (.int a), .val (.int b), .val (.ref (t i)), .unset, .unset]) at_20 rfl rfl rfl
  replace w := w.iloadN (q := 23) (v := b) at_22 rfl rfl
  obtain ⟨_, _, ⟨eh, j, rfl, hj⟩, w⟩ := w.callS (y := (⟨"com/example/restab/restab/TypeWidensExactlyToPinLaw", "typeAt", "(I)Lcom/example/restab/restab/Type;"⟩ : MethodName)) (argsL := [(.int b)]) (rest := []) (own_ta l Z a0 hw h0 n0 Z0 t b hS b_b.1 b_b.2) (hw _ (List.mem_of_getElem? (i := 1) rfl)) (hw _ (List.mem_of_getElem? (i := 2) rfl)) (hw _ (List.mem_of_getElem? (i := 3) rfl)) (hw _ (List.mem_of_getElem? (i := 4) rfl)) (by decide) at_23 (lenOf pd_0 rfl) rfl rfl (by decide) (W := 0) (Nat.le_of_eq rfl) (by decide) (by decide) (by decide) (q := 26) rfl
  rw [eh] at w
  replace w := w [(.ref (t j))] rfl
  replace w := w.astore (q := 28) (l' := #[.val (.int x0), .val (.int x1), .val (.int a), .val (.int b), .val (.ref (t i)), .val (.ref (t j)), .unset]) at_26 rfl rfl rfl
  replace w := w.iloadN (q := 29) (v := a) at_28 rfl rfl
  obtain ⟨_, _, ⟨eh, f1, rfl, hf1⟩, w⟩ := w.callS (y := (⟨"com/example/restab/restab/TypeWidensExactlyToPinLaw", "family", "(I)I"⟩ : MethodName)) (argsL := [(.int a)]) (rest := []) (own_fa l Z a0 hw h0 n0 Z0 a) (hw _ (List.mem_of_getElem? (i := 10) rfl)) (hw _ (List.mem_of_getElem? (i := 11) rfl)) (hw _ (List.mem_of_getElem? (i := 3) rfl)) (hw _ (List.mem_of_getElem? (i := 12) rfl)) (by decide) at_29 (lenOf pd_1 rfl) rfl rfl (by decide) (W := 0) (Nat.le_of_eq rfl) (by decide) (by decide) (by decide) (q := 32) rfl
  rw [eh] at w
  replace w := w [(.int f1)] rfl
  rcases w.ifEq (q := 55) (q' := 35) (xi := f1.toInt) at_32 rfl (by decide) (by decide) rfl with ⟨hc32, w⟩ | ⟨hc32, w⟩
  · replace w := w.iconst (q := 56) (z := (0 : Int32)) at_55 (by decide) rfl
    replace w := w.istore (q := 58) (l' := #[.val (.int x0), .val (.int x1), .val (.int a), .val (.int b), .val (.ref (t i)), .val (.ref (t j)), .val (.int (0 : Int32))]) at_56 rfl rfl
    replace w := w.aload (q := 60) (v := (.ref (t i))) at_58 rfl rfl rfl
    replace w := w.aload (q := 62) (v := (.ref (t j))) at_60 rfl rfl rfl
    obtain ⟨_, _, ⟨eh, r, rfl, hr⟩, w⟩ := w.callV (a := (t i)) (y := (⟨"com/example/restab/restab/Type", "widensExactlyTo", "(Lcom/example/restab/restab/Type;)Z"⟩ : MethodName)) (argsL := [(.ref (t j))]) (rest := []) (own_wi l Z a0 hw h0 n0 Z0 t i j hS (hI i 0 (by omega) (by omega)) (hI j 1 (by omega) (by omega)) (hI i 3 (by omega) (by omega)) (hI j 4 (by omega) (by omega))) (hE i (by omega)) (hw _ (List.mem_of_getElem? (i := 13) rfl)) (hw _ (List.mem_of_getElem? (i := 14) rfl)) (hw _ (List.mem_of_getElem? (i := 16) rfl)) (hw _ (List.mem_of_getElem? (i := 15) rfl)) (hw _ (List.mem_of_getElem? (i := 6) rfl)) (hw _ (List.mem_of_getElem? (i := 17) rfl)) (by decide) at_62 (lenOf pd_2 rfl) rfl rfl (by decide) (W := 0) (Nat.le_of_eq rfl) (by decide) (by decide) (by decide) (q := 65) rfl
    rw [eh] at w
    replace w := w [(.int r)] rfl
    replace w := w.iload (q := 67) (v := (0 : Int32)) at_65 rfl rfl
    rcases w.icmpNe (q := 74) (q' := 70) (xi := r.toInt) (yi := 0) at_67 rfl rfl (by decide) (by decide) rfl with ⟨hc67, w⟩ | ⟨hc67, w⟩
    · replace w := w.iconst (q := 75) (z := (0 : Int32)) at_74 (by decide) rfl
      exfalso; omega
    · replace w := w.iconst (q := 71) (z := (1 : Int32)) at_70 (by decide) rfl
      replace w := w.goto (q := 75) at_71 (by decide) (by decide)
      exact w.retZ at_75 (z := 1) (by decide) rfl (by decide) (by decide)
  · replace w := w.iloadN (q := 36) (v := a) at_35 rfl rfl
    obtain ⟨_, _, ⟨eh, f2, rfl, hf2⟩, w⟩ := w.callS (y := (⟨"com/example/restab/restab/TypeWidensExactlyToPinLaw", "family", "(I)I"⟩ : MethodName)) (argsL := [(.int a)]) (rest := []) (own_fa l Z a0 hw h0 n0 Z0 a) (hw _ (List.mem_of_getElem? (i := 10) rfl)) (hw _ (List.mem_of_getElem? (i := 11) rfl)) (hw _ (List.mem_of_getElem? (i := 3) rfl)) (hw _ (List.mem_of_getElem? (i := 12) rfl)) (by decide) at_36 (lenOf pd_1 rfl) rfl rfl (by decide) (W := 0) (Nat.le_of_eq rfl) (by decide) (by decide) (by decide) (q := 39) rfl
    rw [eh] at w
    replace w := w [(.int f2)] rfl
    replace w := w.iloadN (q := 40) (v := b) at_39 rfl rfl
    obtain ⟨_, _, ⟨eh, f3, rfl, hf3⟩, w⟩ := w.callS (y := (⟨"com/example/restab/restab/TypeWidensExactlyToPinLaw", "family", "(I)I"⟩ : MethodName)) (argsL := [(.int b)]) (rest := [(.int f2)]) (own_fa l Z a0 hw h0 n0 Z0 b) (hw _ (List.mem_of_getElem? (i := 10) rfl)) (hw _ (List.mem_of_getElem? (i := 11) rfl)) (hw _ (List.mem_of_getElem? (i := 3) rfl)) (hw _ (List.mem_of_getElem? (i := 12) rfl)) (by decide) at_40 (lenOf pd_1 rfl) rfl rfl (by decide) (W := 1) (Nat.le_of_eq rfl) (by decide) (by decide) (by decide) (q := 43) rfl
    rw [eh] at w
    replace w := w [(.int f3), (.int f2)] rfl
    rcases w.icmpNe (q := 55) (q' := 46) (xi := f2.toInt) (yi := f3.toInt) at_43 rfl rfl (by decide) (by decide) rfl with ⟨hc43, w⟩ | ⟨hc43, w⟩
    · replace w := w.iconst (q := 56) (z := (0 : Int32)) at_55 (by decide) rfl
      replace w := w.istore (q := 58) (l' := #[.val (.int x0), .val (.int x1), .val (.int a), .val (.int b), .val (.ref (t i)), .val (.ref (t j)), .val (.int (0 : Int32))]) at_56 rfl rfl
      replace w := w.aload (q := 60) (v := (.ref (t i))) at_58 rfl rfl rfl
      replace w := w.aload (q := 62) (v := (.ref (t j))) at_60 rfl rfl rfl
      obtain ⟨_, _, ⟨eh, r, rfl, hr⟩, w⟩ := w.callV (a := (t i)) (y := (⟨"com/example/restab/restab/Type", "widensExactlyTo", "(Lcom/example/restab/restab/Type;)Z"⟩ : MethodName)) (argsL := [(.ref (t j))]) (rest := []) (own_wi l Z a0 hw h0 n0 Z0 t i j hS (hI i 0 (by omega) (by omega)) (hI j 1 (by omega) (by omega)) (hI i 3 (by omega) (by omega)) (hI j 4 (by omega) (by omega))) (hE i (by omega)) (hw _ (List.mem_of_getElem? (i := 13) rfl)) (hw _ (List.mem_of_getElem? (i := 14) rfl)) (hw _ (List.mem_of_getElem? (i := 16) rfl)) (hw _ (List.mem_of_getElem? (i := 15) rfl)) (hw _ (List.mem_of_getElem? (i := 6) rfl)) (hw _ (List.mem_of_getElem? (i := 17) rfl)) (by decide) at_62 (lenOf pd_2 rfl) rfl rfl (by decide) (W := 0) (Nat.le_of_eq rfl) (by decide) (by decide) (by decide) (q := 65) rfl
      rw [eh] at w
      replace w := w [(.int r)] rfl
      replace w := w.iload (q := 67) (v := (0 : Int32)) at_65 rfl rfl
      rcases w.icmpNe (q := 74) (q' := 70) (xi := r.toInt) (yi := 0) at_67 rfl rfl (by decide) (by decide) rfl with ⟨hc67, w⟩ | ⟨hc67, w⟩
      · replace w := w.iconst (q := 75) (z := (0 : Int32)) at_74 (by decide) rfl
        exfalso; omega
      · replace w := w.iconst (q := 71) (z := (1 : Int32)) at_70 (by decide) rfl
        replace w := w.goto (q := 75) at_71 (by decide) (by decide)
        exact w.retZ at_75 (z := 1) (by decide) rfl (by decide) (by decide)
    · replace w := w.iloadN (q := 47) (v := a) at_46 rfl rfl
      replace w := w.iloadN (q := 48) (v := b) at_47 rfl rfl
      rcases w.icmpGe (q := 55) (q' := 51) (xi := a.toInt) (yi := b.toInt) at_48 rfl rfl (by decide) (by decide) rfl with ⟨hc48, w⟩ | ⟨hc48, w⟩
      · replace w := w.iconst (q := 56) (z := (0 : Int32)) at_55 (by decide) rfl
        replace w := w.istore (q := 58) (l' := #[.val (.int x0), .val (.int x1), .val (.int a), .val (.int b), .val (.ref (t i)), .val (.ref (t j)), .val (.int (0 : Int32))]) at_56 rfl rfl
        replace w := w.aload (q := 60) (v := (.ref (t i))) at_58 rfl rfl rfl
        replace w := w.aload (q := 62) (v := (.ref (t j))) at_60 rfl rfl rfl
        obtain ⟨_, _, ⟨eh, r, rfl, hr⟩, w⟩ := w.callV (a := (t i)) (y := (⟨"com/example/restab/restab/Type", "widensExactlyTo", "(Lcom/example/restab/restab/Type;)Z"⟩ : MethodName)) (argsL := [(.ref (t j))]) (rest := []) (own_wi l Z a0 hw h0 n0 Z0 t i j hS (hI i 0 (by omega) (by omega)) (hI j 1 (by omega) (by omega)) (hI i 3 (by omega) (by omega)) (hI j 4 (by omega) (by omega))) (hE i (by omega)) (hw _ (List.mem_of_getElem? (i := 13) rfl)) (hw _ (List.mem_of_getElem? (i := 14) rfl)) (hw _ (List.mem_of_getElem? (i := 16) rfl)) (hw _ (List.mem_of_getElem? (i := 15) rfl)) (hw _ (List.mem_of_getElem? (i := 6) rfl)) (hw _ (List.mem_of_getElem? (i := 17) rfl)) (by decide) at_62 (lenOf pd_2 rfl) rfl rfl (by decide) (W := 0) (Nat.le_of_eq rfl) (by decide) (by decide) (by decide) (q := 65) rfl
        rw [eh] at w
        replace w := w [(.int r)] rfl
        replace w := w.iload (q := 67) (v := (0 : Int32)) at_65 rfl rfl
        rcases w.icmpNe (q := 74) (q' := 70) (xi := r.toInt) (yi := 0) at_67 rfl rfl (by decide) (by decide) rfl with ⟨hc67, w⟩ | ⟨hc67, w⟩
        · replace w := w.iconst (q := 75) (z := (0 : Int32)) at_74 (by decide) rfl
          exfalso; omega
        · replace w := w.iconst (q := 71) (z := (1 : Int32)) at_70 (by decide) rfl
          replace w := w.goto (q := 75) at_71 (by decide) (by decide)
          exact w.retZ at_75 (z := 1) (by decide) rfl (by decide) (by decide)
      · replace w := w.iconst (q := 52) (z := (1 : Int32)) at_51 (by decide) rfl
        replace w := w.goto (q := 56) at_52 (by decide) (by decide)
        replace w := w.istore (q := 58) (l' := #[.val (.int x0), .val (.int x1), .val (.int a), .val (.int b), .val (.ref (t i)), .val (.ref (t j)), .val (.int (1 : Int32))]) at_56 rfl rfl
        replace w := w.aload (q := 60) (v := (.ref (t i))) at_58 rfl rfl rfl
        replace w := w.aload (q := 62) (v := (.ref (t j))) at_60 rfl rfl rfl
        obtain ⟨_, _, ⟨eh, r, rfl, hr⟩, w⟩ := w.callV (a := (t i)) (y := (⟨"com/example/restab/restab/Type", "widensExactlyTo", "(Lcom/example/restab/restab/Type;)Z"⟩ : MethodName)) (argsL := [(.ref (t j))]) (rest := []) (own_wi l Z a0 hw h0 n0 Z0 t i j hS (hI i 0 (by omega) (by omega)) (hI j 1 (by omega) (by omega)) (hI i 3 (by omega) (by omega)) (hI j 4 (by omega) (by omega))) (hE i (by omega)) (hw _ (List.mem_of_getElem? (i := 13) rfl)) (hw _ (List.mem_of_getElem? (i := 14) rfl)) (hw _ (List.mem_of_getElem? (i := 16) rfl)) (hw _ (List.mem_of_getElem? (i := 15) rfl)) (hw _ (List.mem_of_getElem? (i := 6) rfl)) (hw _ (List.mem_of_getElem? (i := 17) rfl)) (by decide) at_62 (lenOf pd_2 rfl) rfl rfl (by decide) (W := 0) (Nat.le_of_eq rfl) (by decide) (by decide) (by decide) (q := 65) rfl
        rw [eh] at w
        replace w := w [(.int r)] rfl
        replace w := w.iload (q := 67) (v := (1 : Int32)) at_65 rfl rfl
        rcases w.icmpNe (q := 74) (q' := 70) (xi := r.toInt) (yi := 1) at_67 rfl rfl (by decide) (by decide) rfl with ⟨hc67, w⟩ | ⟨hc67, w⟩
        · replace w := w.iconst (q := 75) (z := (0 : Int32)) at_74 (by decide) rfl
          exfalso; omega
        · replace w := w.iconst (q := 71) (z := (1 : Int32)) at_70 (by decide) rfl
          replace w := w.goto (q := 75) at_71 (by decide) (by decide)
          exact w.retZ at_75 (z := 1) (by decide) rfl (by decide) (by decide)
theorem own_nat (i j : Nat) (hi : i ≤ 12) (hj : j ≤ 12) (e : Int32.ofNat i = Int32.ofNat j) : i = j := by
  have h := congrArg Int32.toInt e
  rw [Int32.toInt_ofNat_of_lt (by omega), Int32.toInt_ofNat_of_lt (by omega)] at h
  omega
set_option maxRecDepth 65536 in
set_option maxHeartbeats 40000000 in
theorem comes_1 {Post : Tables → Env → Array Value → State → Outcome → State → Prop} (hpost : ∀ tb e args s v u, (limb_1_1.after args s (.returned v) u = true ∧ limb_1_2.after args s (.returned v) u = true ∧ True) → FrameEnd s (.returned v) u (Jvm.fieldLocs frame_1_writes args s ++ Jvm.arrayLocs frame_1_arrays args s ++ Jvm.staticLocs frame_1_statics s) 0 0 → Post tb e args s (.returned v) u) :
    ArmFor flags0 classFile x code maxLocals ret World_1 tables_1 room_1 Calls_1 rest_1 Pre_1 Post := by
  intro l hfl _ _ p e ha hc hk s m args below hf hA hF happ hP
  obtain ⟨hcalls, hrest, hpre⟩ := hP
  obtain ⟨-, -, -, hnamed, -, -, -, hat⟩ := (Spec.applies_iff hf).mp happ
  obtain ⟨hg, hn⟩ := and_e (Cond.before_iff.mp (show (Jvm.Cond.and given_1 narrow_1).before args s = true from hpre))
  obtain ⟨hg0, hk0⟩ := and_e hg
  obtain ⟨g0, hk1⟩ := and_e hk0
  obtain ⟨v0, v1, rfl⟩ : ∃ v0 v1 : Value, args = #[v0, v1] := by
    have hs : args.size = 2 := by simpa [Cond.value, given_1] using hg0
    obtain ⟨L⟩ := args
    match L, hs with
    | [v0, v1], _ => exact ⟨v0, v1, rfl⟩
  have hw := fun d (hd : d ∈ tables_1) => atoms_spec (ws := Jvm.Cond.code x code maxLocals ret :: tables_1) hat d (List.mem_cons_of_mem _ hd)
  obtain ⟨i0, e0⟩ := is_v g0
  obtain rfl : v0 = (.int i0) := Option.some.inj e0
  obtain ⟨i1, e1⟩ := is_v hk1
  obtain rfl : v1 = (.int i1) := Option.some.inj e1
  obtain ⟨m0, hn1⟩ := and_e hn
  obtain ⟨m1, hn2⟩ := and_e hn1
  obtain ⟨m2, hn3⟩ := and_e hn2
  obtain ⟨m3, hn4⟩ := and_e hn3
  obtain ⟨m4, hn5⟩ := and_e hn4
  obtain ⟨m5, hn6⟩ := and_e hn5
  obtain ⟨m6, hn7⟩ := and_e hn6
  obtain ⟨m7, hn8⟩ := and_e hn7
  obtain ⟨m8, hn9⟩ := and_e hn8
  obtain ⟨m9, hn10⟩ := and_e hn9
  obtain ⟨m10, hn11⟩ := and_e hn10
  obtain ⟨m11, hn12⟩ := and_e hn11
  obtain ⟨m12, hn13⟩ := and_e hn12
  obtain ⟨m13, hn14⟩ := and_e hn13
  obtain ⟨m14, hn15⟩ := and_e hn14
  obtain ⟨m15, hn16⟩ := and_e hn15
  obtain ⟨m16, hn17⟩ := and_e hn16
  obtain ⟨m17, hn18⟩ := and_e hn17
  obtain ⟨m18, hn19⟩ := and_e hn18
  obtain ⟨m19, hn20⟩ := and_e hn19
  obtain ⟨m20, hn21⟩ := and_e hn20
  obtain ⟨m21, hn22⟩ := and_e hn21
  obtain ⟨m22, hn23⟩ := and_e hn22
  obtain ⟨m23, hn24⟩ := and_e hn23
  obtain ⟨m24, hn25⟩ := and_e hn24
  obtain ⟨tINTEGER, eINTEGER⟩ := exa_v m0
  obtain ⟨tREAL, eREAL⟩ := exa_v m1
  obtain ⟨tBIGINT, eBIGINT⟩ := exa_v m2
  obtain ⟨tDOUBLE, eDOUBLE⟩ := exa_v m6
  obtain ⟨tDATE, eDATE⟩ := exa_v m8
  obtain ⟨tTEXT, eTEXT⟩ := exa_v m10
  obtain ⟨tVARCHAR, eVARCHAR⟩ := exa_v m12
  obtain ⟨tBOOLEAN, eBOOLEAN⟩ := exa_v m14
  obtain ⟨tOID, eOID⟩ := exa_v m15
  obtain ⟨tUNKNOWN, eUNKNOWN⟩ := exa_v m17
  obtain ⟨tNUMERIC, eNUMERIC⟩ := exa_v m19
  obtain ⟨tREGCLASS, eREGCLASS⟩ := exa_v m22
  obtain ⟨tCHAR, eCHAR⟩ := exa_v m23
  have SINTEGER : Sta s s.heap "com/example/restab/restab/Type" "INTEGER" "Lcom/example/restab/restab/Type;" (.ref tINTEGER) := Sta.start eINTEGER (Or.inr ⟨(hw _ (List.mem_of_getElem? (i := 6) rfl)), (hw _ (List.mem_of_getElem? (i := 7) rfl))⟩)
  have EINTEGER : Exa s s.heap tINTEGER "com/example/restab/restab/Type" := Exa.start eINTEGER m0
  have SREAL : Sta s s.heap "com/example/restab/restab/Type" "REAL" "Lcom/example/restab/restab/Type;" (.ref tREAL) := Sta.start eREAL (Or.inr ⟨(hw _ (List.mem_of_getElem? (i := 6) rfl)), (hw _ (List.mem_of_getElem? (i := 9) rfl))⟩)
  have EREAL : Exa s s.heap tREAL "com/example/restab/restab/Type" := Exa.start eREAL m1
  have SBIGINT : Sta s s.heap "com/example/restab/restab/Type" "BIGINT" "Lcom/example/restab/restab/Type;" (.ref tBIGINT) := Sta.start eBIGINT (Or.inr ⟨(hw _ (List.mem_of_getElem? (i := 6) rfl)), (hw _ (List.mem_of_getElem? (i := 20) rfl))⟩)
  have EBIGINT : Exa s s.heap tBIGINT "com/example/restab/restab/Type" := Exa.start eBIGINT m2
  have OREAL := fld_of_eq m3 eREAL
  have OBIGINT := fld_of_eq m4 eBIGINT
  have OINTEGER := fld_of_eq m5 eINTEGER
  have SDOUBLE : Sta s s.heap "com/example/restab/restab/Type" "DOUBLE" "Lcom/example/restab/restab/Type;" (.ref tDOUBLE) := Sta.start eDOUBLE (Or.inr ⟨(hw _ (List.mem_of_getElem? (i := 6) rfl)), (hw _ (List.mem_of_getElem? (i := 24) rfl))⟩)
  have EDOUBLE : Exa s s.heap tDOUBLE "com/example/restab/restab/Type" := Exa.start eDOUBLE m6
  have ODOUBLE := fld_of_eq m7 eDOUBLE
  have SDATE : Sta s s.heap "com/example/restab/restab/Type" "DATE" "Lcom/example/restab/restab/Type;" (.ref tDATE) := Sta.start eDATE (Or.inr ⟨(hw _ (List.mem_of_getElem? (i := 6) rfl)), (hw _ (List.mem_of_getElem? (i := 27) rfl))⟩)
  have EDATE : Exa s s.heap tDATE "com/example/restab/restab/Type" := Exa.start eDATE m8
  have ODATE := fld_of_eq m9 eDATE
  have STEXT : Sta s s.heap "com/example/restab/restab/Type" "TEXT" "Lcom/example/restab/restab/Type;" (.ref tTEXT) := Sta.start eTEXT (Or.inr ⟨(hw _ (List.mem_of_getElem? (i := 6) rfl)), (hw _ (List.mem_of_getElem? (i := 29) rfl))⟩)
  have ETEXT : Exa s s.heap tTEXT "com/example/restab/restab/Type" := Exa.start eTEXT m10
  have OTEXT := fld_of_eq m11 eTEXT
  have SVARCHAR : Sta s s.heap "com/example/restab/restab/Type" "VARCHAR" "Lcom/example/restab/restab/Type;" (.ref tVARCHAR) := Sta.start eVARCHAR (Or.inr ⟨(hw _ (List.mem_of_getElem? (i := 6) rfl)), (hw _ (List.mem_of_getElem? (i := 31) rfl))⟩)
  have EVARCHAR : Exa s s.heap tVARCHAR "com/example/restab/restab/Type" := Exa.start eVARCHAR m12
  have OVARCHAR := fld_of_eq m13 eVARCHAR
  have SBOOLEAN : Sta s s.heap "com/example/restab/restab/Type" "BOOLEAN" "Lcom/example/restab/restab/Type;" (.ref tBOOLEAN) := Sta.start eBOOLEAN (Or.inr ⟨(hw _ (List.mem_of_getElem? (i := 6) rfl)), (hw _ (List.mem_of_getElem? (i := 33) rfl))⟩)
  have EBOOLEAN : Exa s s.heap tBOOLEAN "com/example/restab/restab/Type" := Exa.start eBOOLEAN m14
  have SOID : Sta s s.heap "com/example/restab/restab/Type" "OID" "Lcom/example/restab/restab/Type;" (.ref tOID) := Sta.start eOID (Or.inr ⟨(hw _ (List.mem_of_getElem? (i := 6) rfl)), (hw _ (List.mem_of_getElem? (i := 35) rfl))⟩)
  have EOID : Exa s s.heap tOID "com/example/restab/restab/Type" := Exa.start eOID m15
  have OBOOLEAN := fld_of_eq m16 eBOOLEAN
  have SUNKNOWN : Sta s s.heap "com/example/restab/restab/Type" "UNKNOWN" "Lcom/example/restab/restab/Type;" (.ref tUNKNOWN) := Sta.start eUNKNOWN (Or.inr ⟨(hw _ (List.mem_of_getElem? (i := 6) rfl)), (hw _ (List.mem_of_getElem? (i := 37) rfl))⟩)
  have EUNKNOWN : Exa s s.heap tUNKNOWN "com/example/restab/restab/Type" := Exa.start eUNKNOWN m17
  have OUNKNOWN := fld_of_eq m18 eUNKNOWN
  have SNUMERIC : Sta s s.heap "com/example/restab/restab/Type" "NUMERIC" "Lcom/example/restab/restab/Type;" (.ref tNUMERIC) := Sta.start eNUMERIC (Or.inr ⟨(hw _ (List.mem_of_getElem? (i := 6) rfl)), (hw _ (List.mem_of_getElem? (i := 39) rfl))⟩)
  have ENUMERIC : Exa s s.heap tNUMERIC "com/example/restab/restab/Type" := Exa.start eNUMERIC m19
  have ONUMERIC := fld_of_eq m20 eNUMERIC
  have OOID := fld_of_eq m21 eOID
  have SREGCLASS : Sta s s.heap "com/example/restab/restab/Type" "REGCLASS" "Lcom/example/restab/restab/Type;" (.ref tREGCLASS) := Sta.start eREGCLASS (Or.inr ⟨(hw _ (List.mem_of_getElem? (i := 6) rfl)), (hw _ (List.mem_of_getElem? (i := 41) rfl))⟩)
  have EREGCLASS : Exa s s.heap tREGCLASS "com/example/restab/restab/Type" := Exa.start eREGCLASS m22
  have SCHAR : Sta s s.heap "com/example/restab/restab/Type" "CHAR" "Lcom/example/restab/restab/Type;" (.ref tCHAR) := Sta.start eCHAR (Or.inr ⟨(hw _ (List.mem_of_getElem? (i := 6) rfl)), (hw _ (List.mem_of_getElem? (i := 43) rfl))⟩)
  have ECHAR : Exa s s.heap tCHAR "com/example/restab/restab/Type" := Exa.start eCHAR m23
  have OREGCLASS := fld_of_eq m24 eREGCLASS
  have OCHAR := fld_of_eq hn25 eCHAR
  obtain ⟨t, ht⟩ : ∃ t : Nat → Nat, t = fun i => [tINTEGER, tBIGINT, tNUMERIC, tREAL, tDOUBLE, tTEXT, tVARCHAR, tCHAR, tBOOLEAN, tDATE, tOID, tREGCLASS, tUNKNOWN].getD i 0 := ⟨_, rfl⟩
  have hS : Stas s s.heap t := by subst ht; exact ⟨SINTEGER, SBIGINT, SNUMERIC, SREAL, SDOUBLE, STEXT, SVARCHAR, SCHAR, SBOOLEAN, SDATE, SOID, SREGCLASS, SUNKNOWN⟩
  have hE : ∀ i, i ≤ 12 → Exa s s.heap (t i) "com/example/restab/restab/Type" := by
    intro i hi; subst ht
    match i, hi with
    | 0, _ => exact EINTEGER
    | 1, _ => exact EBIGINT
    | 2, _ => exact ENUMERIC
    | 3, _ => exact EREAL
    | 4, _ => exact EDOUBLE
    | 5, _ => exact ETEXT
    | 6, _ => exact EVARCHAR
    | 7, _ => exact ECHAR
    | 8, _ => exact EBOOLEAN
    | 9, _ => exact EDATE
    | 10, _ => exact EOID
    | 11, _ => exact EREGCLASS
    | 12, _ => exact EUNKNOWN
  have hO : ∀ i, i ≤ 12 → Fld s s.heap (t i) "java/lang/Enum" "ordinal" "I" (.int (Int32.ofNat i)) := by
    intro i hi; subst ht
    match i, hi with
    | 0, _ => exact OINTEGER
    | 1, _ => exact OBIGINT
    | 2, _ => exact ONUMERIC
    | 3, _ => exact OREAL
    | 4, _ => exact ODOUBLE
    | 5, _ => exact OTEXT
    | 6, _ => exact OVARCHAR
    | 7, _ => exact OCHAR
    | 8, _ => exact OBOOLEAN
    | 9, _ => exact ODATE
    | 10, _ => exact OOID
    | 11, _ => exact OREGCLASS
    | 12, _ => exact OUNKNOWN
  have hI : ∀ i j, i ≤ 12 → j ≤ 12 → (t i = t j ↔ i = j) := fun i j hi hj => ⟨fun e => Decidable.byContradiction fun ne => (hO i hi).ne (hO j hj) (fun q => ne (own_nat i j hi hj (Value.int.inj q))) e, fun e => by rw [e]⟩
  obtain ⟨n, o, h1, h2, h3, _, L, rfl, ⟨hv, N⟩, hq⟩ := own_law l s _ hw s.heap s.heap.size (Nat.le_refl _) i0 i1 t hS hE hI tables_1 p e ha hc hk s m _ below hf ((Spec.applies_iff_loose hf).mp happ).1 ⟨rfl, State.Warmed39.refl s, rfl⟩ trivial
  subst hv
  refine ⟨n, _, h1, h2, h3, hpost _ _ _ _ _ _ ⟨Cond.after_iff.mpr rfl, Cond.after_iff.mpr (eq_i res_at (Term.int_eval (1)) rfl), trivial⟩ ⟨hq.1, hq.2.1, (hq.2.2.sift fun y hy => Or.inr (N y hy)).mono (by decide) (by decide)⟩⟩
theorem main_1_1 : Claimed_1_1 := comes_1 fun _ _ _ _ _ _ h hF => ⟨h.1, hF⟩
theorem main_1_2 : Claimed_1_2 := comes_1 fun _ _ _ _ _ _ h hF => ⟨h.2.1, hF⟩
end Jvm.Pilot.@@N@@
namespace Jvm.Pilot.@@N@@
open Jvm Jvm.ClassFile Sem Op Lib Jvm.Free Jvm.Stand Jvm.Pilot.@@N@@.Jvm.D
/-! MADE BY PROGRAM (witnessworld.py) out of the Statement's table words and the real class files: 12 classes; the members and pool entries that the words name. The judged class is class 1, her method 3. -/
namespace start1
open Jvm.ClassFile
def u (s : String) : CpInfo := .utf8 (stringToUtf16 s)
/-- a pool by its gaps: so many unusable entries, then the entry; so many at the end -/
def gap : Nat → List CpInfo → List CpInfo
  | 0, r => r
  | n + 1, r => .unusable :: gap n r
def poolList (es : List (Nat × CpInfo)) (last : Nat) : List CpInfo := es.foldr (fun e r => gap e.1 (e.2 :: r)) (gap last [])
def pool (es : List (Nat × CpInfo)) (last : Nat) : Array CpInfo := ⟨poolList es last⟩
def fileOf (pool : Array CpInfo) (this : Nat) (attrs : Array Attribute := #[]) (ms : Array MethodInfo := #[]) (fl : Nat := 33) (sup : Nat := 0) (ifs : Array Nat := #[]) (fds : Array FieldInfo := #[]) : ClassFile where
  minorVersion := 0
  majorVersion := 65
  constantPool := pool
  accessFlags := fl
  thisClass := this
  superClass := sup
  interfaces := ifs
  fields := fds
  methods := ms
  attributes := attrs
def plain (name : String) (sup : Option ClassId) : Class where
  name := name
  kind := .ordinary
  loader := none
  accessFlags := 33
  super := sup
  interfaces := #[]
  cf := none
  fields := #[]
  methods := #[]
  instanceTypes := #[]
  staticTypes := #[]
  resolved := #[]
  callSites := []
  init := .initialized
  statics := none
  mirror := none

def pool0 : Array CpInfo := pool [(5, u "<init>"), (0, u "()V"), (1, .class_ 10), (1, u "java/lang/Object")] 113

def k0m0 : Method := { name := "<init>", desc := "()V", sig := { parameters := [], returnType := none }, accessFlags := 1, code := none }
/-- java/lang/Object -/
def k0 : Class := { plain "java/lang/Object" none with
  accessFlags := 33
  interfaces := #[]
  cf := some (fileOf pool0 8 #[] #[{ accessFlags := 1, nameIndex := 5, descriptorIndex := 6, attributes := #[] }] 33 0 #[] #[])
  fields := #[]
  methods := #[k0m0]
  instanceTypes := #[]
  staticTypes := #[]
  resolved := Array.replicate 124 none
  statics := none }

def pool1 : Array CpInfo := pool [(2, .class_ 4), (1, u "java/lang/Object"), (0, u "<init>"), (0, u "()V"), (0, .fieldref 8 9), (0, .class_ 10), (0, .nameAndType 11 12), (0, u "com/example/restab/restab/Type"), (0, u "INTEGER"), (0, u "Lcom/example/restab/restab/Type;"), (0, .fieldref 8 14), (0, .nameAndType 15 12), (0, u "BIGINT"), (0, .fieldref 8 17), (0, .nameAndType 18 12), (0, u "NUMERIC"), (0, .fieldref 8 20), (0, .nameAndType 21 12), (0, u "REAL"), (0, .fieldref 8 23), (0, .nameAndType 24 12), (0, u "DOUBLE"), (0, .fieldref 8 26), (0, .nameAndType 27 12), (0, u "TEXT"), (0, .fieldref 8 29), (0, .nameAndType 30 12), (0, u "VARCHAR"), (0, .fieldref 8 32), (0, .nameAndType 33 12), (0, u "CHAR"), (0, .fieldref 8 35), (0, .nameAndType 36 12), (0, u "BOOLEAN"), (0, .fieldref 8 38), (0, .nameAndType 39 12), (0, u "DATE"), (0, .fieldref 8 41), (0, .nameAndType 42 12), (0, u "OID"), (0, .fieldref 8 44), (0, .nameAndType 45 12), (0, u "REGCLASS"), (0, .fieldref 8 47), (0, .nameAndType 48 12), (0, u "UNKNOWN"), (0, .integer 2147483647), (0, .methodref 51 52), (0, .class_ 53), (0, .nameAndType 54 55), (0, u "com/example/restab/restab/TypeWidensExactlyToPinLaw"), (0, u "typeAt"), (0, u "(I)Lcom/example/restab/restab/Type;"), (0, .methodref 51 57), (0, .nameAndType 58 59), (0, u "family"), (0, u "(I)I"), (0, .methodref 8 61), (0, .nameAndType 62 63), (0, u "widensExactlyTo"), (0, u "(Lcom/example/restab/restab/Type;)Z"), (3, u "law"), (0, u "(II)Z")] 2

def k1m0 : Method := { name := "<init>", desc := "()V", sig := { parameters := [], returnType := none }, accessFlags := 2, code := none }
def k1c1 : Code := { maxStack := 2, maxLocals := 1, code := method_2_code, exceptionTable := #[], attributes := #[] }
def k1m1 : Method := { name := "typeAt", desc := "(I)Lcom/example/restab/restab/Type;", sig := { parameters := [.int], returnType := some (.object "com/example/restab/restab/Type") }, accessFlags := 10, code := some k1c1 }
def k1c2 : Code := { maxStack := 2, maxLocals := 1, code := method_3_code, exceptionTable := #[], attributes := #[] }
def k1m2 : Method := { name := "family", desc := "(I)I", sig := { parameters := [.int], returnType := some .int }, accessFlags := 10, code := some k1c2 }
def k1c3 : Code := { maxStack := 2, maxLocals := 7, code := code, exceptionTable := #[], attributes := #[] }
def k1m3 : Method := { name := "law", desc := "(II)Z", sig := { parameters := [.int, .int], returnType := some .boolean }, accessFlags := 9, code := some k1c3 }
/-- com/example/restab/restab/TypeWidensExactlyToPinLaw -/
def k1 : Class := { plain "com/example/restab/restab/TypeWidensExactlyToPinLaw" (some 0) with
  accessFlags := 49
  interfaces := #[]
  cf := some (fileOf pool1 51 #[] #[{ accessFlags := 2, nameIndex := 5, descriptorIndex := 6, attributes := #[] }, { accessFlags := 10, nameIndex := 54, descriptorIndex := 55, attributes := #[] }, { accessFlags := 10, nameIndex := 58, descriptorIndex := 59, attributes := #[] }, { accessFlags := 9, nameIndex := 67, descriptorIndex := 68, attributes := #[] }] 49 2 #[] #[])
  fields := #[]
  methods := #[k1m0, k1m1, k1m2, k1m3]
  instanceTypes := #[]
  staticTypes := #[]
  resolved := Array.replicate 71 none
  statics := none }

def pool2 : Array CpInfo := pool [(1, .class_ 2), (0, u "java/lang/constant/Constable"), (0, .class_ 4), (0, u "java/lang/Object")] 6

/-- java/lang/constant/Constable -/
def k2 : Class := { plain "java/lang/constant/Constable" (some 0) with
  accessFlags := 1537
  interfaces := #[]
  cf := some (fileOf pool2 1 #[] #[] 1537 3 #[] #[])
  fields := #[]
  methods := #[]
  instanceTypes := #[]
  staticTypes := #[]
  resolved := Array.replicate 11 none
  statics := none }

def pool3 : Array CpInfo := pool [(1, .class_ 2), (0, u "java/lang/Comparable"), (0, .class_ 4), (0, u "java/lang/Object")] 7

/-- java/lang/Comparable -/
def k3 : Class := { plain "java/lang/Comparable" (some 0) with
  accessFlags := 1537
  interfaces := #[]
  cf := some (fileOf pool3 1 #[] #[] 1537 3 #[] #[])
  fields := #[]
  methods := #[]
  instanceTypes := #[]
  staticTypes := #[]
  resolved := Array.replicate 12 none
  statics := none }

def pool4 : Array CpInfo := pool [(1, .class_ 2), (0, u "java/io/Serializable"), (0, .class_ 4), (0, u "java/lang/Object")] 2

/-- java/io/Serializable -/
def k4 : Class := { plain "java/io/Serializable" (some 0) with
  accessFlags := 1537
  interfaces := #[]
  cf := some (fileOf pool4 1 #[] #[] 1537 3 #[] #[])
  fields := #[]
  methods := #[]
  instanceTypes := #[]
  staticTypes := #[]
  resolved := Array.replicate 7 none
  statics := none }

def pool5 : Array CpInfo := pool [(2, .class_ 4), (1, u "java/lang/Enum"), (0, u "name"), (0, u "Ljava/lang/String;"), (2, u "ordinal"), (0, u "I"), (1, .class_ 14), (1, u "java/lang/Object"), (4, u "hash"), (86, .class_ 108), (1, u "java/lang/Enum$EnumDesc"), (2, .class_ 112), (0, u "java/lang/constant/Constable"), (0, .class_ 114), (0, u "java/lang/Comparable"), (0, .class_ 116), (0, u "java/io/Serializable")] 87

/-- java/lang/Enum -/
def k5 : Class := { plain "java/lang/Enum" (some 0) with
  accessFlags := 1057
  interfaces := #[2, 3, 4]
  cf := some (fileOf pool5 2 #[.nestMembers #[106]] #[] 1057 12 #[111, 113, 115] #[{ accessFlags := 18, nameIndex := 5, descriptorIndex := 6, attributes := #[] }, { accessFlags := 18, nameIndex := 9, descriptorIndex := 10, attributes := #[] }, { accessFlags := 2, nameIndex := 19, descriptorIndex := 10, attributes := #[] }])
  fields := #[{ name := "name", type := (.object "java/lang/String"), accessFlags := 18, slot := 0, constantValue := 0 }, { name := "ordinal", type := .int, accessFlags := 18, slot := 1, constantValue := 0 }, { name := "hash", type := .int, accessFlags := 2, slot := 2, constantValue := 0 }]
  methods := #[]
  instanceTypes := #[(.object "java/lang/String"), .int, .int]
  staticTypes := #[]
  resolved := Array.replicate 204 none
  statics := none }

def pool6 : Array CpInfo := pool [(1, .class_ 2), (0, u "com/example/restab/restab/Type"), (0, .fieldref 1 4), (0, .nameAndType 5 6), (0, u "INTEGER"), (0, u "Lcom/example/restab/restab/Type;"), (0, .fieldref 1 8), (0, .nameAndType 9 6), (0, u "BIGINT"), (2, u "NUMERIC"), (0, .fieldref 1 14), (0, .nameAndType 15 6), (0, u "REAL"), (0, .fieldref 1 17), (0, .nameAndType 18 6), (0, u "DOUBLE"), (2, u "TEXT"), (2, u "VARCHAR"), (2, u "CHAR"), (2, u "BOOLEAN"), (2, u "DATE"), (2, u "OID"), (2, u "REGCLASS"), (2, u "UNKNOWN"), (2, u "$VALUES"), (0, u "[Lcom/example/restab/restab/Type;"), (6, .class_ 55), (1, u "java/lang/Enum"), (8, u "sqlName"), (0, u "Ljava/lang/String;"), (2, u "catalogName"), (2, u "KEYWORD_NAMES"), (0, u "Ljava/util/Map;"), (8, u "CATALOG_NAMES"), (41, u "(Lcom/example/restab/restab/Type;)Z"), (2, u "widensExactlyTo"), (396, u "WHOLE_NUMBER"), (0, u "Ljava/util/regex/Pattern;"), (37, u "DECIMAL_NUMBER"), (80, u "SIGNED_DIGITS"), (128, u "MAX_LENGTH"), (0, u "I"), (1, u "MAX_NUMERIC_PRECISION"), (1, u "MAX_DECLARED_SCALE"), (0, u "REAL_NUMERIC_DIGITS"), (1, u "DOUBLE_NUMERIC_DIGITS"), (1, u "MAX_OID"), (0, u "J")] 77

def k6c0 : Code := { maxStack := 2, maxLocals := 2, code := prog_191_method_21_code, exceptionTable := #[], attributes := #[] }
def k6m0 : Method := { name := "widensExactlyTo", desc := "(Lcom/example/restab/restab/Type;)Z", sig := { parameters := [(.object "com/example/restab/restab/Type")], returnType := some .boolean }, accessFlags := 0, code := some k6c0 }
/-- com/example/restab/restab/Type -/
def k6 : Class := { plain "com/example/restab/restab/Type" (some 5) with
  accessFlags := 16432
  interfaces := #[]
  cf := some (fileOf pool6 1 #[] #[{ accessFlags := 0, nameIndex := 126, descriptorIndex := 123, attributes := #[] }] 16432 53 #[] #[{ accessFlags := 16409, nameIndex := 5, descriptorIndex := 6, attributes := #[] }, { accessFlags := 16409, nameIndex := 9, descriptorIndex := 6, attributes := #[] }, { accessFlags := 16409, nameIndex := 12, descriptorIndex := 6, attributes := #[] }, { accessFlags := 16409, nameIndex := 15, descriptorIndex := 6, attributes := #[] }, { accessFlags := 16409, nameIndex := 18, descriptorIndex := 6, attributes := #[] }, { accessFlags := 16409, nameIndex := 21, descriptorIndex := 6, attributes := #[] }, { accessFlags := 16409, nameIndex := 24, descriptorIndex := 6, attributes := #[] }, { accessFlags := 16409, nameIndex := 27, descriptorIndex := 6, attributes := #[] }, { accessFlags := 16409, nameIndex := 30, descriptorIndex := 6, attributes := #[] }, { accessFlags := 16409, nameIndex := 33, descriptorIndex := 6, attributes := #[] }, { accessFlags := 16409, nameIndex := 36, descriptorIndex := 6, attributes := #[] }, { accessFlags := 16409, nameIndex := 39, descriptorIndex := 6, attributes := #[] }, { accessFlags := 16409, nameIndex := 42, descriptorIndex := 6, attributes := #[] }, { accessFlags := 26, nameIndex := 71, descriptorIndex := 72, attributes := #[] }, { accessFlags := 26, nameIndex := 81, descriptorIndex := 72, attributes := #[] }, { accessFlags := 26, nameIndex := 523, descriptorIndex := 524, attributes := #[] }, { accessFlags := 26, nameIndex := 562, descriptorIndex := 524, attributes := #[] }, { accessFlags := 26, nameIndex := 772, descriptorIndex := 773, attributes := #[] }, { accessFlags := 26, nameIndex := 775, descriptorIndex := 773, attributes := #[] }, { accessFlags := 26, nameIndex := 777, descriptorIndex := 773, attributes := #[] }, { accessFlags := 26, nameIndex := 778, descriptorIndex := 773, attributes := #[] }, { accessFlags := 26, nameIndex := 780, descriptorIndex := 773, attributes := #[] }, { accessFlags := 26, nameIndex := 782, descriptorIndex := 783, attributes := #[] }, { accessFlags := 26, nameIndex := 643, descriptorIndex := 524, attributes := #[] }, { accessFlags := 18, nameIndex := 64, descriptorIndex := 65, attributes := #[] }, { accessFlags := 18, nameIndex := 68, descriptorIndex := 65, attributes := #[] }, { accessFlags := 4122, nameIndex := 45, descriptorIndex := 46, attributes := #[] }])
  fields := #[{ name := "INTEGER", type := (.object "com/example/restab/restab/Type"), accessFlags := 16409, slot := 0, constantValue := 0 }, { name := "BIGINT", type := (.object "com/example/restab/restab/Type"), accessFlags := 16409, slot := 1, constantValue := 0 }, { name := "NUMERIC", type := (.object "com/example/restab/restab/Type"), accessFlags := 16409, slot := 2, constantValue := 0 }, { name := "REAL", type := (.object "com/example/restab/restab/Type"), accessFlags := 16409, slot := 3, constantValue := 0 }, { name := "DOUBLE", type := (.object "com/example/restab/restab/Type"), accessFlags := 16409, slot := 4, constantValue := 0 }, { name := "TEXT", type := (.object "com/example/restab/restab/Type"), accessFlags := 16409, slot := 5, constantValue := 0 }, { name := "VARCHAR", type := (.object "com/example/restab/restab/Type"), accessFlags := 16409, slot := 6, constantValue := 0 }, { name := "CHAR", type := (.object "com/example/restab/restab/Type"), accessFlags := 16409, slot := 7, constantValue := 0 }, { name := "BOOLEAN", type := (.object "com/example/restab/restab/Type"), accessFlags := 16409, slot := 8, constantValue := 0 }, { name := "DATE", type := (.object "com/example/restab/restab/Type"), accessFlags := 16409, slot := 9, constantValue := 0 }, { name := "OID", type := (.object "com/example/restab/restab/Type"), accessFlags := 16409, slot := 10, constantValue := 0 }, { name := "REGCLASS", type := (.object "com/example/restab/restab/Type"), accessFlags := 16409, slot := 11, constantValue := 0 }, { name := "UNKNOWN", type := (.object "com/example/restab/restab/Type"), accessFlags := 16409, slot := 12, constantValue := 0 }, { name := "KEYWORD_NAMES", type := (.object "java/util/Map"), accessFlags := 26, slot := 13, constantValue := 0 }, { name := "CATALOG_NAMES", type := (.object "java/util/Map"), accessFlags := 26, slot := 14, constantValue := 0 }, { name := "WHOLE_NUMBER", type := (.object "java/util/regex/Pattern"), accessFlags := 26, slot := 15, constantValue := 0 }, { name := "DECIMAL_NUMBER", type := (.object "java/util/regex/Pattern"), accessFlags := 26, slot := 16, constantValue := 0 }, { name := "MAX_LENGTH", type := .int, accessFlags := 26, slot := 17, constantValue := 0 }, { name := "MAX_NUMERIC_PRECISION", type := .int, accessFlags := 26, slot := 18, constantValue := 0 }, { name := "MAX_DECLARED_SCALE", type := .int, accessFlags := 26, slot := 19, constantValue := 0 }, { name := "REAL_NUMERIC_DIGITS", type := .int, accessFlags := 26, slot := 20, constantValue := 0 }, { name := "DOUBLE_NUMERIC_DIGITS", type := .int, accessFlags := 26, slot := 21, constantValue := 0 }, { name := "MAX_OID", type := .long, accessFlags := 26, slot := 22, constantValue := 0 }, { name := "SIGNED_DIGITS", type := (.object "java/util/regex/Pattern"), accessFlags := 26, slot := 23, constantValue := 0 }, { name := "sqlName", type := (.object "java/lang/String"), accessFlags := 18, slot := 3, constantValue := 0 }, { name := "catalogName", type := (.object "java/lang/String"), accessFlags := 18, slot := 4, constantValue := 0 }, { name := "$VALUES", type := (.array (.object "com/example/restab/restab/Type")), accessFlags := 4122, slot := 24, constantValue := 0 }]
  methods := #[k6m0]
  instanceTypes := #[(.object "java/lang/String"), .int, .int, (.object "java/lang/String"), (.object "java/lang/String")]
  staticTypes := #[(.object "com/example/restab/restab/Type"), (.object "com/example/restab/restab/Type"), (.object "com/example/restab/restab/Type"), (.object "com/example/restab/restab/Type"), (.object "com/example/restab/restab/Type"), (.object "com/example/restab/restab/Type"), (.object "com/example/restab/restab/Type"), (.object "com/example/restab/restab/Type"), (.object "com/example/restab/restab/Type"), (.object "com/example/restab/restab/Type"), (.object "com/example/restab/restab/Type"), (.object "com/example/restab/restab/Type"), (.object "com/example/restab/restab/Type"), (.object "java/util/Map"), (.object "java/util/Map"), (.object "java/util/regex/Pattern"), (.object "java/util/regex/Pattern"), .int, .int, .int, .int, .int, .long, (.object "java/util/regex/Pattern"), (.array (.object "com/example/restab/restab/Type"))]
  resolved := Array.replicate 861 none
  statics := some 0 }

def pool7 : Array CpInfo := pool [(1, u "java/lang/Cloneable"), (0, .class_ 1), (0, u "java/lang/Object"), (0, .class_ 3)] 3

/-- java/lang/Cloneable -/
def k7 : Class := { plain "java/lang/Cloneable" (some 0) with
  accessFlags := 1537
  interfaces := #[]
  cf := some (fileOf pool7 2 #[] #[] 1537 4 #[] #[])
  fields := #[]
  methods := #[]
  instanceTypes := #[]
  staticTypes := #[]
  resolved := Array.replicate 8 none
  statics := none }

/-- the primitive byte -/
def k8 : Class := { plain "byte" none with kind := .primitive 'B', accessFlags := 0x411 }
/-- [B -/
def k9 : Class := { plain "[B" (some 0) with kind := .array 8 .byte, interfaces := #[7, 4], accessFlags := 1041 }

/-- the primitive int -/
def k10 : Class := { plain "int" none with kind := .primitive 'I', accessFlags := 0x411 }
/-- [I -/
def k11 : Class := { plain "[I" (some 0) with kind := .array 10 .int, interfaces := #[7, 4], accessFlags := 1041 }

def heap : Heap := #[{ cls := 6, slots := #[.ref 1, .ref 2, .ref 3, .ref 4, .ref 5, .ref 6, .ref 7, .ref 8, .ref 9, .ref 10, .ref 11, .ref 12, .ref 13, .null, .null, .null, .null, .int 0, .int 0, .int 0, .int 0, .int 0, .long 0, .null, .null], vm := .statics 6 },
  { cls := 6, slots := #[.null, .int 0, .int 0, .null, .null], vm := .none },
  { cls := 6, slots := #[.null, .int 1, .int 0, .null, .null], vm := .none },
  { cls := 6, slots := #[.null, .int 2, .int 0, .null, .null], vm := .none },
  { cls := 6, slots := #[.null, .int 3, .int 0, .null, .null], vm := .none },
  { cls := 6, slots := #[.null, .int 4, .int 0, .null, .null], vm := .none },
  { cls := 6, slots := #[.null, .int 5, .int 0, .null, .null], vm := .none },
  { cls := 6, slots := #[.null, .int 6, .int 0, .null, .null], vm := .none },
  { cls := 6, slots := #[.null, .int 7, .int 0, .null, .null], vm := .none },
  { cls := 6, slots := #[.null, .int 8, .int 0, .null, .null], vm := .none },
  { cls := 6, slots := #[.null, .int 9, .int 0, .null, .null], vm := .none },
  { cls := 6, slots := #[.null, .int 10, .int 0, .null, .null], vm := .none },
  { cls := 6, slots := #[.null, .int 11, .int 0, .null, .null], vm := .none },
  { cls := 6, slots := #[.null, .int 12, .int 0, .null, .null], vm := .none }]
def classes : Array Class := #[k0, k1, k2, k3, k4, k5, k6, k7, k8, k9, k10, k11]
def interned : List (Array UInt16 × Addr) := []
def slotsUsed : Nat := 90
def theMethod : MethodId := ⟨1, 3⟩
def args0 : Array Value := #[.int 0, .int 1]
def aboutOver (below : List Frame) : State where
  vm := { classes := classes, interned := interned.toArray }
  heap := heap
  slotsUsed := slotsUsed
  threads := #[{ frames := .invoking theMethod args0 :: below }]
def below0 : List Frame := [.native { method := ⟨0, 0⟩, args := #[] }]
def about1 : State := aboutOver below0
def p0 : Program := .bare "" "" ""
def e0 : Env := launch0.env 0 0 0
theorem w_frames : about1.frames = Frame.invoking theMethod args0 :: below0 := rfl
set_option maxRecDepth 65536 in
theorem w_args : argsFit about1.vm theMethod args0 = true := by decide +kernel
set_option maxRecDepth 65536 in
theorem w_heap : heapFits about1 = true := by decide +kernel
set_option maxRecDepth 65536 in
theorem w_runnable : about1.curStatus? = some .runnable := by decide +kernel
set_option maxRecDepth 65536 in
theorem w_alone : about1.alone = true := by decide +kernel
set_option maxRecDepth 65536 in
theorem w_named : about1.methodNamed? x = some theMethod := by decide +kernel
set_option maxRecDepth 65536 in
theorem w_hears : about1.hears theMethod below0 = true := by decide +kernel
set_option maxRecDepth 65536 in
theorem w_ripe : about1.ripe theMethod args0 below0 = true := by decide +kernel
theorem w_running : about1.status = .running := rfl
set_option maxRecDepth 65536 in
theorem w_room : about1.hasRoom e0.platform room_1 = true :=
  launch0.hasRoom_least _ room_1 (by decide +kernel) (by decide +kernel) (by decide +kernel) (by decide +kernel) (by decide +kernel) (by decide +kernel)
theorem allAtoms_all (ts : List Jvm.Cond) (a : Array Jvm.Value) (st : Jvm.State) : (allAtoms ts).before a st = ts.all (fun c => c.before a st) := by
  induction ts with
  | nil => rfl
  | cons c t ih =>
    show (Jvm.Cond.and c (allAtoms t)).before a st = _
    rw [Jvm.Cond.before_and, ih, List.all_cons]
def words1 : List Jvm.Cond := Jvm.Cond.code x code maxLocals ret :: tables_1
/-- a 'code' word, met by the world's own term for the bytes: nothing is compared byte by byte -/
theorem code_word {y : MethodName} {bytes : ByteArray} {mx : Nat} {rt : Option FieldType} {a : Array Value} {s : State} {m : MethodId} {meth : Method} {c : Code} (h1 : s.methodNamed? y = some m) (h2 : s.vm.method? m = some meth) (h3 : meth.code = some c) (h4 : c.code = bytes)
    (h5 : (c.maxLocals == mx && c.exceptionTable.isEmpty && decide (c.maxStack ≤ mostOperands) && decide (meth.sig.returnType = rt) && !meth.locks && decide (parseMethodDescriptor y.desc = some meth.sig)) = true) : (Jvm.Cond.code y bytes mx rt).before a s = true := by
  simp only [Bool.and_eq_true, beq_iff_eq, Bool.not_eq_true', decide_eq_true_eq] at h5
  obtain ⟨⟨⟨⟨⟨g1, g2⟩, g3⟩, g4⟩, g5⟩, g6⟩ := h5
  simp [Cond.before, Cond.holds, Cond.value, h1, h2, h3, h4, g1, g2, g3, g4, g5, g6]
def isCode : Jvm.Cond → Bool
  | .code _ _ _ _ => true
  | _ => false
theorem all_split {L : List Jvm.Cond} {P : Jvm.Cond → Bool} (h1 : L.all (fun c => isCode c || P c) = true) (h2 : ∀ c ∈ L.filter isCode, P c = true) : L.all P = true := by
  refine List.all_eq_true.mpr fun c hc => ?_
  have h := List.all_eq_true.mp h1 c hc
  rcases Bool.eq_false_or_eq_true (isCode c) with hi | hi
  · exact h2 c (List.mem_filter.mpr ⟨hc, hi⟩)
  · simpa [hi] using h
set_option maxRecDepth 65536 in
theorem w_c0 : (Jvm.Cond.code x code maxLocals ret).before args0 about1 = true := code_word (m := ⟨1, 3⟩) (meth := k1m3) (c := k1c3) (by decide +kernel) rfl rfl rfl (by decide +kernel)
set_option maxRecDepth 65536 in
theorem w_c1 : (Jvm.Cond.code ({ cls := "com/example/restab/restab/TypeWidensExactlyToPinLaw", name := "typeAt", desc := "(I)Lcom/example/restab/restab/Type;" } : Jvm.MethodName) method_2_code (1 : Nat) (Option.some (Jvm.ClassFile.FieldType.object "com/example/restab/restab/Type"))).before args0 about1 = true := code_word (m := ⟨1, 1⟩) (meth := k1m1) (c := k1c1) (by decide +kernel) rfl rfl rfl (by decide +kernel)
set_option maxRecDepth 65536 in
theorem w_c2 : (Jvm.Cond.code ({ cls := "com/example/restab/restab/TypeWidensExactlyToPinLaw", name := "family", desc := "(I)I" } : Jvm.MethodName) method_3_code (1 : Nat) (Option.some Jvm.ClassFile.FieldType.int)).before args0 about1 = true := code_word (m := ⟨1, 2⟩) (meth := k1m2) (c := k1c2) (by decide +kernel) rfl rfl rfl (by decide +kernel)
set_option maxRecDepth 65536 in
theorem w_c3 : (Jvm.Cond.code ({ cls := "com/example/restab/restab/Type", name := "widensExactlyTo", desc := "(Lcom/example/restab/restab/Type;)Z" } : Jvm.MethodName) prog_191_method_21_code (2 : Nat) (Option.some Jvm.ClassFile.FieldType.boolean)).before args0 about1 = true := code_word (m := ⟨6, 0⟩) (meth := k6m0) (c := k6c0) (by decide +kernel) rfl rfl rfl (by decide +kernel)
def codes1 : List Jvm.Cond := [Jvm.Cond.code x code maxLocals ret, Jvm.Cond.code ({ cls := "com/example/restab/restab/TypeWidensExactlyToPinLaw", name := "typeAt", desc := "(I)Lcom/example/restab/restab/Type;" } : Jvm.MethodName) method_2_code (1 : Nat) (Option.some (Jvm.ClassFile.FieldType.object "com/example/restab/restab/Type")), Jvm.Cond.code ({ cls := "com/example/restab/restab/TypeWidensExactlyToPinLaw", name := "family", desc := "(I)I" } : Jvm.MethodName) method_3_code (1 : Nat) (Option.some Jvm.ClassFile.FieldType.int), Jvm.Cond.code ({ cls := "com/example/restab/restab/Type", name := "widensExactlyTo", desc := "(Lcom/example/restab/restab/Type;)Z" } : Jvm.MethodName) prog_191_method_21_code (2 : Nat) (Option.some Jvm.ClassFile.FieldType.boolean)]
set_option maxRecDepth 65536 in
theorem codes_eq : words1.filter isCode = codes1 := rfl
theorem w_codes : ∀ c ∈ words1.filter isCode, c.before args0 about1 = true := by
  rw [codes_eq]
  intro c hc
  simp only [codes1, List.mem_cons, List.not_mem_nil, or_false] at hc
  rcases hc with rfl | rfl | rfl | rfl
  · exact w_c0
  · exact w_c1
  · exact w_c2
  · exact w_c3
set_option maxRecDepth 65536 in
theorem w_t1 : (words1.take 24).all (fun c => isCode c || c.before args0 about1) = true := by decide +kernel
set_option maxRecDepth 65536 in
theorem w_t2 : (words1.drop 24).all (fun c => isCode c || c.before args0 about1) = true := by decide +kernel
theorem w_tables : (allAtoms (Jvm.Cond.code x code maxLocals ret :: tables_1)).before args0 about1 = true := by
  rw [allAtoms_all]
  show words1.all (fun c => c.before args0 about1) = true
  refine all_split ?_ w_codes
  rw [← List.take_append_drop 24 words1, List.all_append, w_t1, w_t2]
  rfl
set_option maxRecDepth 65536 in
theorem w_case : (Jvm.Cond.and given_1 narrow_1).before args0 about1 = true := by decide +kernel
theorem w_applies : (headSpec (Jvm.Cond.code x code maxLocals ret :: tables_1) room_1).applies x e0.platform about1 = true :=
  (Spec.applies_iff w_frames).mpr ⟨w_running, w_runnable, w_alone, w_named, w_hears, w_ripe, w_room, w_tables⟩
theorem atStart : AtStart classFile x code maxLocals ret World_1 tables_1 room_1 Calls_1 rest_1 Pre_1 launch0 p0 e0 about1 theMethod args0 below0 :=
  ⟨lists_1, trivial, launch0.admits_env _ _ _, launch0.least_env, fairChoices_fair.cas, fairChoices_fair.clock, w_frames, w_args, w_heap, w_applies, trivial, trivial, w_case⟩
end start1
theorem witness_1 : WitnessClaimed_1 := ⟨start1.p0, start1.e0, start1.about1, start1.theMethod, start1.args0, start1.below0, start1.atStart⟩
end Jvm.Pilot.@@N@@
