import JvmDerived
import JvmDerived.Pilot.@@N@@Statement
import JvmDerived.Pilot.@@N@@Code
set_option linter.unusedVariables false
set_option linter.unusedSimpArgs false
namespace Jvm.OwnGo
open Jvm Jvm.ClassFile Sem Op Lib Jvm.Free Jvm.Stand Jvm.LawKit Jvm.RoadKit Bundle
/-- from A the invocation ends and returns what Q takes; what was written lies at n0 or above -/
def Go (p : Program) (e : Env) (below : List Frame) (s : State) (n0 k n : Nat) (Q : Option Value → Heap → Prop) (A : State) : Prop :=
  ∃ t o, Steps p.tables e below A t ∧ t.status = .running ∧ Ended t below o ∧ ∃ v L, o = .returned v ∧ (Q v t.heap ∧ Fr n0 L) ∧ FrameEnd s o t L k n
/-- what stays as it is through a walk -/
def Ctx (p : Program) (s : State) (m : MethodId) (meth : Method) (c : Code) (Z : State) (a0 : Array Value) (ws : List Jvm.Cond) (own nm : String) (bytes : ByteArray) (ml : Nat) (ret : Option FieldType) : Prop :=
  p.tables.exec = Jvm.exec ∧ Z.Warmed39 s.vm ∧ (∀ d ∈ ws, d.before a0 Z = true) ∧ s.vm.findClass own = some m.cls ∧ meth.name = nm ∧ c.code = bytes ∧ c.maxLocals = ml ∧ meth.sig.returnType = ret ∧ meth.locks = false
/-- where a walk stands -/
def St (p : Program) (l : Launch) (e : Env) (R : Room) (s : State) (m : MethodId) (args : Array Value) (below : List Frame) (meth : Method) (c : Code) (n0 : Nat) (T : State) (h : Heap) (cells slots : Nat) : Prop :=
  T.heap = h ∧ n0 ≤ s.heap.size ∧ ∃ locs, Fr n0 locs ∧ Stand p l e R s m args below meth c T locs cells slots
/-- an array: its elements, one by one -/
def AR (Z : State) (h : Heap) (a : Addr) (ty : FieldType) (vs : List Value) : Prop := ∃ c : Cell, Arr Z h a c ty ∧ c.slots = vs.toArray ∧ vs.length < 2 ^ 31
/-- a method's contract at one heap -/
def Con (l : Launch) (Z : State) (y : MethodName) (bytes : ByteArray) (ml : Nat) (ret : Option FieldType) (wx : List Jvm.Cond) (rm : Room) (n0 : Nat) (as : Array Value) (h0 : Heap) (Q : Option Value → Heap → Prop) : Prop :=
  MetFree l y (head1 (Jvm.Cond.code y bytes ml ret :: wx) rm) (fun a U => a = as ∧ Z.Warmed39 U.vm ∧ U.heap = h0) (fun _ _ _ _ _ => True) (fun _ U o U' => ∃ v L, o = .returned v ∧ (Q v U'.heap ∧ Fr n0 L) ∧ FrameEnd U o U' L rm.cells rm.slots)
section One
variable {p : Program} {l : Launch} {e : Env} {R : Room} {s : State} {m : MethodId} {args : Array Value} {below : List Frame} {meth : Method} {c : Code} {T : State} {h h' : Heap} {n0 cells slots k n : Nat} {Q : Option Value → Heap → Prop} {A B Z : State} {a0 : Array Value} {ws : List Jvm.Cond} {own nm : String} {bytes : ByteArray} {ml pc : Nat} {ret : Option FieldType} {Ls : Array Slot} {rest stk : List Value}
def ius (x y : Int32) : Int32 := (x.toUInt32 >>> (y &&& 31).toUInt32).toInt32
def lus (x : Int64) (y : Int32) : Int64 := (x.toUInt64 >>> (y &&& 0x3f).toInt64.toUInt64).toInt64
theorem tm0 (x d : Int) : x.tmod d = 0 ↔ x % d = 0 := ⟨fun h => Int.emod_eq_zero_of_dvd (Int.dvd_of_tmod_eq_zero h), fun h => Int.tmod_eq_zero_of_dvd (Int.dvd_of_emod_eq_zero h)⟩
theorem irr (x : Int32) : ¬ x < x := by rw [Int32.lt_iff_toInt_lt]; omega
theorem wd {ws : List Jvm.Cond} (i : Nat) {d : Jvm.Cond} (q : ws[i]? = some d) : d ∈ ws := List.mem_of_getElem? q
theorem Ctx.hx (C : Ctx p s m meth c Z a0 ws own nm bytes ml ret) : p.tables.exec = Jvm.exec := C.1
theorem Ctx.hZ (C : Ctx p s m meth c Z a0 ws own nm bytes ml ret) : Z.Warmed39 s.vm := C.2.1
theorem Ctx.w (C : Ctx p s m meth c Z a0 ws own nm bytes ml ret) {d : Jvm.Cond} (q : d ∈ ws) : d.before a0 Z = true := C.2.2.1 d q
theorem Ctx.hown (C : Ctx p s m meth c Z a0 ws own nm bytes ml ret) : s.vm.findClass own = some m.cls := C.2.2.2.1
theorem Ctx.hnm (C : Ctx p s m meth c Z a0 ws own nm bytes ml ret) : meth.name = nm := C.2.2.2.2.1
theorem Ctx.hby (C : Ctx p s m meth c Z a0 ws own nm bytes ml ret) : c.code = bytes := C.2.2.2.2.2.1
theorem Ctx.hml (C : Ctx p s m meth c Z a0 ws own nm bytes ml ret) : c.maxLocals = ml := C.2.2.2.2.2.2.1
theorem Ctx.hret (C : Ctx p s m meth c Z a0 ws own nm bytes ml ret) : meth.sig.returnType = ret := C.2.2.2.2.2.2.2.1
theorem Ctx.hlk (C : Ctx p s m meth c Z a0 ws own nm bytes ml ret) : meth.locks = false := C.2.2.2.2.2.2.2.2
theorem St.here (X : St p l e R s m args below meth c n0 T h cells slots) : At T m c below := by obtain ⟨-, -, _, -, X⟩ := X; exact X.here
theorem St.size (X : St p l e R s m args below meth c n0 T h cells slots) : n0 ≤ h.size := by
  obtain ⟨rfl, hz, _, -, X⟩ := X
  exact Nat.le_trans hz X.same.2.1
theorem St.mono (X : St p l e R s m args below meth c n0 T h cells slots) {cells' slots' : Nat} (h1 : cells ≤ cells') (h2 : slots ≤ slots') : St p l e R s m args below meth c n0 T h cells' slots' := by
  obtain ⟨e0, hz, locs, N, X⟩ := X
  exact ⟨e0, hz, locs, N, { X with same := X.same.mono h1 h2 }⟩
theorem Go.st (q : ∀ t, Steps p.tables e below B t → Steps p.tables e below A t) (g : Go p e below s n0 k n Q B) : Go p e below s n0 k n Q A := by
  obtain ⟨t, o, h1, r⟩ := g
  exact ⟨t, o, q t h1, r⟩
theorem Go.tr (q : Steps p.tables e below A B) (g : Go p e below s n0 k n Q B) : Go p e below s n0 k n Q A := Go.st (fun _ r => q.trans r) g
theorem Con.mk {y : MethodName} {wx : List Jvm.Cond} {rm : Room} {as : Array Value} {h0 : Heap} (hp : plainFor y = true) (hw : ∀ d ∈ ws, d.before a0 Z = true) (hz : n0 ≤ h0.size)
    (H : ∀ (p : Program) (e : Env) (s : State) (m : MethodId) (below : List Frame) (meth : Method) (c : Code) (T : State), Ctx p s m meth c Z a0 ws y.cls y.name bytes ml ret → St p l e rm s m as below meth c n0 T h0 0 0 → Go p e below s n0 rm.cells rm.slots Q (T.setTop (entryFrame m as ml))) : Con l Z y bytes ml ret wx rm n0 as h0 Q := by
  refine MetFree.of_bodySF hp hisR ?_
  intro p e s m args below meth c s₁ Bd hml hP hK
  obtain ⟨rfl, hZ, hh⟩ := hP
  have hE : s₁.heap = h0 := by rw [← hh, Bd.state]; rfl
  exact H p e s m below meth c s₁ ⟨Bd.exec, hZ, hw, findClass_of_methodNamed Bd.named, (name_of_methodNamed Bd.named Bd.method).1, Bd.bytes, hml, Bd.returns, BodyLoose.notSynchronized Bd⟩ ⟨hE, by rw [hh]; exact hz, [], Fr.nil n0, Stand.of_body Bd⟩
theorem Go.retAny (C : Ctx p s m meth c Z a0 ws own nm bytes ml ret) (X : St p l e R s m args below meth c n0 T h cells slots) {w : Value} {t : FieldType} {i : Instr} (hret : ret = some t) (hn : narrow t w = w)
    (hi : (i = .ireturn ∧ (t = .int ∨ t = .boolean ∨ t = .byte ∨ t = .char ∨ t = .short) ∧ ∃ z, w = .int z) ∨ (i = .lreturn ∧ t = .long ∧ ∃ z, w = .long z) ∨ (i = .dreturn ∧ t = .double ∧ ∃ z, w = .double z) ∨ (i = .freturn ∧ t = .float ∧ ∃ z, w = .float z) ∨ (i = .areturn ∧ t.isReference = true ∧ w.isRef = true))
    (hd : decode bytes pc = .ok (i, 1)) (hQ : Q (some w) h) (hk : cells ≤ k) (hs : slots ≤ n) : Go p e below s n0 k n Q (T.setTop (mkF m pc Ls (w :: rest))) := by
  obtain ⟨rfl, hz, locs, N, X⟩ := X
  obtain ⟨fs, hr, hrun, hended, hW, hsame⟩ := X.leave (v := some w) (fun q => by rw [C.hret, hret] at q; cases q) C.hlk
  exact ⟨_, _, retOut X C.hx (C.hret.trans hret) hn hi (hb C.hby hd) hr, hrun, hended, _, _, rfl, ⟨hQ, N⟩, ⟨_, rfl⟩, hW, hsame.mono hk hs⟩
theorem Go.retI (C : Ctx p s m meth c Z a0 ws own nm bytes ml (some .int)) (X : St p l e R s m args below meth c n0 T h cells slots) {z : Int32} (hd : decode bytes pc = .ok (.ireturn, 1)) (hQ : Q (some (.int z)) h) (hk : cells ≤ k) (hs : slots ≤ n) : Go p e below s n0 k n Q (T.setTop (mkF m pc Ls (.int z :: rest))) :=
  Go.retAny C X rfl rfl (Or.inl ⟨rfl, Or.inl rfl, _, rfl⟩) hd hQ hk hs
theorem Go.retZ (C : Ctx p s m meth c Z a0 ws own nm bytes ml (some .boolean)) (X : St p l e R s m args below meth c n0 T h cells slots) {z : Int32} (hz : z = 0 ∨ z = 1) (hd : decode bytes pc = .ok (.ireturn, 1)) (hQ : Q (some (.int z)) h) (hk : cells ≤ k) (hs : slots ≤ n) : Go p e below s n0 k n Q (T.setTop (mkF m pc Ls (.int z :: rest))) :=
  Go.retAny C X rfl (by rcases hz with rfl | rfl <;> rfl) (Or.inl ⟨rfl, Or.inr (Or.inl rfl), _, rfl⟩) hd hQ hk hs
theorem Go.retJ (C : Ctx p s m meth c Z a0 ws own nm bytes ml (some .long)) (X : St p l e R s m args below meth c n0 T h cells slots) {z : Int64} (hd : decode bytes pc = .ok (.lreturn, 1)) (hQ : Q (some (.long z)) h) (hk : cells ≤ k) (hs : slots ≤ n) : Go p e below s n0 k n Q (T.setTop (mkF m pc Ls (.long z :: rest))) :=
  Go.retAny C X rfl rfl (Or.inr (Or.inl ⟨rfl, rfl, _, rfl⟩)) hd hQ hk hs
theorem Go.retA {t : FieldType} (C : Ctx p s m meth c Z a0 ws own nm bytes ml (some t)) (X : St p l e R s m args below meth c n0 T h cells slots) {v : Value} (ht : t.isReference = true) (hv : v.isRef = true) (hd : decode bytes pc = .ok (.areturn, 1)) (hQ : Q (some v) h) (hk : cells ≤ k) (hs : slots ≤ n) : Go p e below s n0 k n Q (T.setTop (mkF m pc Ls (v :: rest))) :=
  Go.retAny C X rfl (by cases t <;> cases v <;> first | rfl | (simp [FieldType.isReference] at ht; done) | (simp [Value.isRef] at hv; done)) (Or.inr (Or.inr (Or.inr (Or.inr ⟨rfl, ht, hv⟩)))) hd hQ hk hs
theorem Go.retV (C : Ctx p s m meth c Z a0 ws own nm bytes ml none) (X : St p l e R s m args below meth c n0 T h cells slots) (hd : decode bytes pc = .ok (.return_, 1)) (hQ : Q none h) (hk : cells ≤ k) (hs : slots ≤ n) : Go p e below s n0 k n Q (T.setTop (mkF m pc Ls [])) := by
  obtain ⟨rfl, hz, locs, N, X⟩ := X
  obtain ⟨fs, hr, hrun, hended, hW, hsame⟩ := X.leave (v := none) (fun _ => rfl) C.hlk
  exact ⟨_, _, X.returnOut C.hx C.hret (hb C.hby hd) hr, hrun, hended, _, _, rfl, ⟨hQ, N⟩, ⟨_, rfl⟩, hW, hsame.mono hk hs⟩
theorem Go.if_eq (C : Ctx p s m meth c Z a0 ws own nm bytes ml ret) (X : St p l e R s m args below meth c n0 T h cells slots) {x : Int32} {o : Int} {pc' : Nat} (hd : decode bytes pc = .ok (.ifCond .eq o, 3)) (ho : 0 ≤ (pc : Int) + o) (hp : ((pc : Int) + o).toNat = pc') (Y : x = 0 → Go p e below s n0 k n Q (T.setTop (mkF m pc' Ls rest))) (N : ¬ x = 0 → Go p e below s n0 k n Q (T.setTop (mkF m (pc + 3) Ls rest))) : Go p e below s n0 k n Q (T.setTop (mkF m pc Ls (.int x :: rest))) := by
  by_cases q : x = 0
  · exact Go.st (fun _ => XS.ifYes X.here C.hx rfl rfl (hb C.hby hd) rfl (by simpa [ifCond.holds] using q) ho hp) (Y q)
  · exact Go.st (fun _ => XS.ifNo X.here C.hx rfl (hb C.hby hd) rfl (by simpa [ifCond.holds] using q) ) (N q)
theorem Go.icmp_eq (C : Ctx p s m meth c Z a0 ws own nm bytes ml ret) (X : St p l e R s m args below meth c n0 T h cells slots) {x y : Int32} {o : Int} {pc' : Nat} (hd : decode bytes pc = .ok (.if_icmp .eq o, 3)) (ho : 0 ≤ (pc : Int) + o) (hp : ((pc : Int) + o).toNat = pc') (Y : x = y → Go p e below s n0 k n Q (T.setTop (mkF m pc' Ls rest))) (N : ¬ x = y → Go p e below s n0 k n Q (T.setTop (mkF m (pc + 3) Ls rest))) : Go p e below s n0 k n Q (T.setTop (mkF m pc Ls (.int y :: .int x :: rest))) := by
  by_cases q : x = y
  · exact Go.st (fun _ => XS.icmpYes X.here C.hx rfl rfl (hb C.hby hd) rfl (by simpa [if_icmp.holds] using q) ho hp) (Y q)
  · exact Go.st (fun _ => XS.icmpNo X.here C.hx rfl (hb C.hby hd) rfl (by simpa [if_icmp.holds] using q) ) (N q)
theorem Go.if_ne (C : Ctx p s m meth c Z a0 ws own nm bytes ml ret) (X : St p l e R s m args below meth c n0 T h cells slots) {x : Int32} {o : Int} {pc' : Nat} (hd : decode bytes pc = .ok (.ifCond .ne o, 3)) (ho : 0 ≤ (pc : Int) + o) (hp : ((pc : Int) + o).toNat = pc') (Y : ¬ x = 0 → Go p e below s n0 k n Q (T.setTop (mkF m pc' Ls rest))) (N : x = 0 → Go p e below s n0 k n Q (T.setTop (mkF m (pc + 3) Ls rest))) : Go p e below s n0 k n Q (T.setTop (mkF m pc Ls (.int x :: rest))) := by
  by_cases q : x = 0
  · exact Go.st (fun _ => XS.ifNo X.here C.hx rfl (hb C.hby hd) rfl (by simpa [ifCond.holds] using q) ) (N q)
  · exact Go.st (fun _ => XS.ifYes X.here C.hx rfl rfl (hb C.hby hd) rfl (by simpa [ifCond.holds] using q) ho hp) (Y q)
theorem Go.icmp_ne (C : Ctx p s m meth c Z a0 ws own nm bytes ml ret) (X : St p l e R s m args below meth c n0 T h cells slots) {x y : Int32} {o : Int} {pc' : Nat} (hd : decode bytes pc = .ok (.if_icmp .ne o, 3)) (ho : 0 ≤ (pc : Int) + o) (hp : ((pc : Int) + o).toNat = pc') (Y : ¬ x = y → Go p e below s n0 k n Q (T.setTop (mkF m pc' Ls rest))) (N : x = y → Go p e below s n0 k n Q (T.setTop (mkF m (pc + 3) Ls rest))) : Go p e below s n0 k n Q (T.setTop (mkF m pc Ls (.int y :: .int x :: rest))) := by
  by_cases q : x = y
  · exact Go.st (fun _ => XS.icmpNo X.here C.hx rfl (hb C.hby hd) rfl (by simpa [if_icmp.holds] using q) ) (N q)
  · exact Go.st (fun _ => XS.icmpYes X.here C.hx rfl rfl (hb C.hby hd) rfl (by simpa [if_icmp.holds] using q) ho hp) (Y q)
theorem Go.if_lt (C : Ctx p s m meth c Z a0 ws own nm bytes ml ret) (X : St p l e R s m args below meth c n0 T h cells slots) {x : Int32} {o : Int} {pc' : Nat} (hd : decode bytes pc = .ok (.ifCond .lt o, 3)) (ho : 0 ≤ (pc : Int) + o) (hp : ((pc : Int) + o).toNat = pc') (Y : x < 0 → Go p e below s n0 k n Q (T.setTop (mkF m pc' Ls rest))) (N : ¬ x < 0 → Go p e below s n0 k n Q (T.setTop (mkF m (pc + 3) Ls rest))) : Go p e below s n0 k n Q (T.setTop (mkF m pc Ls (.int x :: rest))) := by
  by_cases q : x < 0
  · exact Go.st (fun _ => XS.ifYes X.here C.hx rfl rfl (hb C.hby hd) rfl (by simpa [ifCond.holds] using q) ho hp) (Y q)
  · exact Go.st (fun _ => XS.ifNo X.here C.hx rfl (hb C.hby hd) rfl (by simpa [ifCond.holds] using q) ) (N q)
theorem Go.icmp_lt (C : Ctx p s m meth c Z a0 ws own nm bytes ml ret) (X : St p l e R s m args below meth c n0 T h cells slots) {x y : Int32} {o : Int} {pc' : Nat} (hd : decode bytes pc = .ok (.if_icmp .lt o, 3)) (ho : 0 ≤ (pc : Int) + o) (hp : ((pc : Int) + o).toNat = pc') (Y : x < y → Go p e below s n0 k n Q (T.setTop (mkF m pc' Ls rest))) (N : ¬ x < y → Go p e below s n0 k n Q (T.setTop (mkF m (pc + 3) Ls rest))) : Go p e below s n0 k n Q (T.setTop (mkF m pc Ls (.int y :: .int x :: rest))) := by
  by_cases q : x < y
  · exact Go.st (fun _ => XS.icmpYes X.here C.hx rfl rfl (hb C.hby hd) rfl (by simpa [if_icmp.holds] using q) ho hp) (Y q)
  · exact Go.st (fun _ => XS.icmpNo X.here C.hx rfl (hb C.hby hd) rfl (by simpa [if_icmp.holds] using q) ) (N q)
theorem Go.if_ge (C : Ctx p s m meth c Z a0 ws own nm bytes ml ret) (X : St p l e R s m args below meth c n0 T h cells slots) {x : Int32} {o : Int} {pc' : Nat} (hd : decode bytes pc = .ok (.ifCond .ge o, 3)) (ho : 0 ≤ (pc : Int) + o) (hp : ((pc : Int) + o).toNat = pc') (Y : ¬ x < 0 → Go p e below s n0 k n Q (T.setTop (mkF m pc' Ls rest))) (N : x < 0 → Go p e below s n0 k n Q (T.setTop (mkF m (pc + 3) Ls rest))) : Go p e below s n0 k n Q (T.setTop (mkF m pc Ls (.int x :: rest))) := by
  by_cases q : x < 0
  · exact Go.st (fun _ => XS.ifNo X.here C.hx rfl (hb C.hby hd) rfl (by simpa [ifCond.holds, Int32.not_lt] using q) ) (N q)
  · exact Go.st (fun _ => XS.ifYes X.here C.hx rfl rfl (hb C.hby hd) rfl (by simpa [ifCond.holds, Int32.not_lt] using q) ho hp) (Y q)
theorem Go.icmp_ge (C : Ctx p s m meth c Z a0 ws own nm bytes ml ret) (X : St p l e R s m args below meth c n0 T h cells slots) {x y : Int32} {o : Int} {pc' : Nat} (hd : decode bytes pc = .ok (.if_icmp .ge o, 3)) (ho : 0 ≤ (pc : Int) + o) (hp : ((pc : Int) + o).toNat = pc') (Y : ¬ x < y → Go p e below s n0 k n Q (T.setTop (mkF m pc' Ls rest))) (N : x < y → Go p e below s n0 k n Q (T.setTop (mkF m (pc + 3) Ls rest))) : Go p e below s n0 k n Q (T.setTop (mkF m pc Ls (.int y :: .int x :: rest))) := by
  by_cases q : x < y
  · exact Go.st (fun _ => XS.icmpNo X.here C.hx rfl (hb C.hby hd) rfl (by simpa [if_icmp.holds, Int32.not_lt] using q) ) (N q)
  · exact Go.st (fun _ => XS.icmpYes X.here C.hx rfl rfl (hb C.hby hd) rfl (by simpa [if_icmp.holds, Int32.not_lt] using q) ho hp) (Y q)
theorem Go.if_gt (C : Ctx p s m meth c Z a0 ws own nm bytes ml ret) (X : St p l e R s m args below meth c n0 T h cells slots) {x : Int32} {o : Int} {pc' : Nat} (hd : decode bytes pc = .ok (.ifCond .gt o, 3)) (ho : 0 ≤ (pc : Int) + o) (hp : ((pc : Int) + o).toNat = pc') (Y : 0 < x → Go p e below s n0 k n Q (T.setTop (mkF m pc' Ls rest))) (N : ¬ 0 < x → Go p e below s n0 k n Q (T.setTop (mkF m (pc + 3) Ls rest))) : Go p e below s n0 k n Q (T.setTop (mkF m pc Ls (.int x :: rest))) := by
  by_cases q : 0 < x
  · exact Go.st (fun _ => XS.ifYes X.here C.hx rfl rfl (hb C.hby hd) rfl (by simpa [ifCond.holds] using q) ho hp) (Y q)
  · exact Go.st (fun _ => XS.ifNo X.here C.hx rfl (hb C.hby hd) rfl (by simpa [ifCond.holds] using q) ) (N q)
theorem Go.icmp_gt (C : Ctx p s m meth c Z a0 ws own nm bytes ml ret) (X : St p l e R s m args below meth c n0 T h cells slots) {x y : Int32} {o : Int} {pc' : Nat} (hd : decode bytes pc = .ok (.if_icmp .gt o, 3)) (ho : 0 ≤ (pc : Int) + o) (hp : ((pc : Int) + o).toNat = pc') (Y : y < x → Go p e below s n0 k n Q (T.setTop (mkF m pc' Ls rest))) (N : ¬ y < x → Go p e below s n0 k n Q (T.setTop (mkF m (pc + 3) Ls rest))) : Go p e below s n0 k n Q (T.setTop (mkF m pc Ls (.int y :: .int x :: rest))) := by
  by_cases q : y < x
  · exact Go.st (fun _ => XS.icmpYes X.here C.hx rfl rfl (hb C.hby hd) rfl (by simpa [if_icmp.holds] using q) ho hp) (Y q)
  · exact Go.st (fun _ => XS.icmpNo X.here C.hx rfl (hb C.hby hd) rfl (by simpa [if_icmp.holds] using q) ) (N q)
theorem Go.if_le (C : Ctx p s m meth c Z a0 ws own nm bytes ml ret) (X : St p l e R s m args below meth c n0 T h cells slots) {x : Int32} {o : Int} {pc' : Nat} (hd : decode bytes pc = .ok (.ifCond .le o, 3)) (ho : 0 ≤ (pc : Int) + o) (hp : ((pc : Int) + o).toNat = pc') (Y : ¬ 0 < x → Go p e below s n0 k n Q (T.setTop (mkF m pc' Ls rest))) (N : 0 < x → Go p e below s n0 k n Q (T.setTop (mkF m (pc + 3) Ls rest))) : Go p e below s n0 k n Q (T.setTop (mkF m pc Ls (.int x :: rest))) := by
  by_cases q : 0 < x
  · exact Go.st (fun _ => XS.ifNo X.here C.hx rfl (hb C.hby hd) rfl (by simpa [ifCond.holds, Int32.not_lt] using q) ) (N q)
  · exact Go.st (fun _ => XS.ifYes X.here C.hx rfl rfl (hb C.hby hd) rfl (by simpa [ifCond.holds, Int32.not_lt] using q) ho hp) (Y q)
theorem Go.icmp_le (C : Ctx p s m meth c Z a0 ws own nm bytes ml ret) (X : St p l e R s m args below meth c n0 T h cells slots) {x y : Int32} {o : Int} {pc' : Nat} (hd : decode bytes pc = .ok (.if_icmp .le o, 3)) (ho : 0 ≤ (pc : Int) + o) (hp : ((pc : Int) + o).toNat = pc') (Y : ¬ y < x → Go p e below s n0 k n Q (T.setTop (mkF m pc' Ls rest))) (N : y < x → Go p e below s n0 k n Q (T.setTop (mkF m (pc + 3) Ls rest))) : Go p e below s n0 k n Q (T.setTop (mkF m pc Ls (.int y :: .int x :: rest))) := by
  by_cases q : y < x
  · exact Go.st (fun _ => XS.icmpNo X.here C.hx rfl (hb C.hby hd) rfl (by simpa [if_icmp.holds, Int32.not_lt] using q) ) (N q)
  · exact Go.st (fun _ => XS.icmpYes X.here C.hx rfl rfl (hb C.hby hd) rfl (by simpa [if_icmp.holds, Int32.not_lt] using q) ho hp) (Y q)
theorem Go.lif_eq (C : Ctx p s m meth c Z a0 ws own nm bytes ml ret) (X : St p l e R s m args below meth c n0 T h cells slots) {x y : Int64} {o : Int} {pc' : Nat} (hd : decode bytes pc = .ok (.ifCond .eq o, 3)) (ho : 0 ≤ (pc : Int) + o) (hp : ((pc : Int) + o).toNat = pc') (Y : x = y → Go p e below s n0 k n Q (T.setTop (mkF m pc' Ls rest))) (N : ¬ x = y → Go p e below s n0 k n Q (T.setTop (mkF m (pc + 3) Ls rest))) : Go p e below s n0 k n Q (T.setTop (mkF m pc Ls (.int (lcmpW x y) :: rest))) := by
  have q := lc_eq x y
  rw [← lcW] at q
  exact Go.if_eq C X hd ho hp (fun r => Y (q.mp r)) (fun r => N (fun u => r (q.mpr u)))
theorem Go.lif_ne (C : Ctx p s m meth c Z a0 ws own nm bytes ml ret) (X : St p l e R s m args below meth c n0 T h cells slots) {x y : Int64} {o : Int} {pc' : Nat} (hd : decode bytes pc = .ok (.ifCond .ne o, 3)) (ho : 0 ≤ (pc : Int) + o) (hp : ((pc : Int) + o).toNat = pc') (Y : ¬ x = y → Go p e below s n0 k n Q (T.setTop (mkF m pc' Ls rest))) (N : x = y → Go p e below s n0 k n Q (T.setTop (mkF m (pc + 3) Ls rest))) : Go p e below s n0 k n Q (T.setTop (mkF m pc Ls (.int (lcmpW x y) :: rest))) := by
  have q := lc_eq x y
  rw [← lcW] at q
  exact Go.if_ne C X hd ho hp (fun r => Y (fun u => r (q.mpr u))) (fun r => N (q.mp r))
theorem Go.lif_lt (C : Ctx p s m meth c Z a0 ws own nm bytes ml ret) (X : St p l e R s m args below meth c n0 T h cells slots) {x y : Int64} {o : Int} {pc' : Nat} (hd : decode bytes pc = .ok (.ifCond .lt o, 3)) (ho : 0 ≤ (pc : Int) + o) (hp : ((pc : Int) + o).toNat = pc') (Y : x < y → Go p e below s n0 k n Q (T.setTop (mkF m pc' Ls rest))) (N : ¬ x < y → Go p e below s n0 k n Q (T.setTop (mkF m (pc + 3) Ls rest))) : Go p e below s n0 k n Q (T.setTop (mkF m pc Ls (.int (lcmpW x y) :: rest))) := by
  have q := lc_lt x y
  rw [← lcW] at q
  exact Go.if_lt C X hd ho hp (fun r => Y (q.mp r)) (fun r => N (fun u => r (q.mpr u)))
theorem Go.lif_ge (C : Ctx p s m meth c Z a0 ws own nm bytes ml ret) (X : St p l e R s m args below meth c n0 T h cells slots) {x y : Int64} {o : Int} {pc' : Nat} (hd : decode bytes pc = .ok (.ifCond .ge o, 3)) (ho : 0 ≤ (pc : Int) + o) (hp : ((pc : Int) + o).toNat = pc') (Y : ¬ x < y → Go p e below s n0 k n Q (T.setTop (mkF m pc' Ls rest))) (N : x < y → Go p e below s n0 k n Q (T.setTop (mkF m (pc + 3) Ls rest))) : Go p e below s n0 k n Q (T.setTop (mkF m pc Ls (.int (lcmpW x y) :: rest))) := by
  have q := lc_lt x y
  rw [← lcW] at q
  exact Go.if_ge C X hd ho hp (fun r => Y (fun u => r (q.mpr u))) (fun r => N (q.mp r))
theorem Go.lif_gt (C : Ctx p s m meth c Z a0 ws own nm bytes ml ret) (X : St p l e R s m args below meth c n0 T h cells slots) {x y : Int64} {o : Int} {pc' : Nat} (hd : decode bytes pc = .ok (.ifCond .gt o, 3)) (ho : 0 ≤ (pc : Int) + o) (hp : ((pc : Int) + o).toNat = pc') (Y : y < x → Go p e below s n0 k n Q (T.setTop (mkF m pc' Ls rest))) (N : ¬ y < x → Go p e below s n0 k n Q (T.setTop (mkF m (pc + 3) Ls rest))) : Go p e below s n0 k n Q (T.setTop (mkF m pc Ls (.int (lcmpW x y) :: rest))) := by
  have q := lc_gt x y
  rw [← lcW] at q
  exact Go.if_gt C X hd ho hp (fun r => Y (q.mp r)) (fun r => N (fun u => r (q.mpr u)))
theorem Go.lif_le (C : Ctx p s m meth c Z a0 ws own nm bytes ml ret) (X : St p l e R s m args below meth c n0 T h cells slots) {x y : Int64} {o : Int} {pc' : Nat} (hd : decode bytes pc = .ok (.ifCond .le o, 3)) (ho : 0 ≤ (pc : Int) + o) (hp : ((pc : Int) + o).toNat = pc') (Y : ¬ y < x → Go p e below s n0 k n Q (T.setTop (mkF m pc' Ls rest))) (N : y < x → Go p e below s n0 k n Q (T.setTop (mkF m (pc + 3) Ls rest))) : Go p e below s n0 k n Q (T.setTop (mkF m pc Ls (.int (lcmpW x y) :: rest))) := by
  have q := lc_gt x y
  rw [← lcW] at q
  exact Go.if_le C X hd ho hp (fun r => Y (fun u => r (q.mpr u))) (fun r => N (q.mp r))
theorem Go.acmp_eq (C : Ctx p s m meth c Z a0 ws own nm bytes ml ret) (X : St p l e R s m args below meth c n0 T h cells slots) {x y : Value} (h1 : x.isRef = true) (h2 : y.isRef = true) {o : Int} {pc' : Nat} (hd : decode bytes pc = .ok (.if_acmp .eq o, 3)) (ho : 0 ≤ (pc : Int) + o) (hp : ((pc : Int) + o).toNat = pc') (Y : x = y → Go p e below s n0 k n Q (T.setTop (mkF m pc' Ls rest))) (N : ¬ x = y → Go p e below s n0 k n Q (T.setTop (mkF m (pc + 3) Ls rest))) : Go p e below s n0 k n Q (T.setTop (mkF m pc Ls (y :: x :: rest))) := by
  obtain ⟨-, -, _, -, X⟩ := X
  by_cases q : x = y
  · exact Go.st (fun _ => Jvm.RoadKit.acmp (g := mkF m pc Ls (y :: x :: rest)) X C.hx rfl h1 h2 (same := true) rfl (hb C.hby hd) rfl (decide_eq_true q) ho (by rw [← hp]; rfl)) (Y q)
  · exact Go.st (fun _ => Jvm.RoadKit.acmp (g := mkF m pc Ls (y :: x :: rest)) X C.hx rfl h1 h2 (same := false) rfl (hb C.hby hd) rfl (decide_eq_false q) ho (by rfl)) (N q)
theorem Go.acmp_ne (C : Ctx p s m meth c Z a0 ws own nm bytes ml ret) (X : St p l e R s m args below meth c n0 T h cells slots) {x y : Value} (h1 : x.isRef = true) (h2 : y.isRef = true) {o : Int} {pc' : Nat} (hd : decode bytes pc = .ok (.if_acmp .ne o, 3)) (ho : 0 ≤ (pc : Int) + o) (hp : ((pc : Int) + o).toNat = pc') (Y : ¬ x = y → Go p e below s n0 k n Q (T.setTop (mkF m pc' Ls rest))) (N : x = y → Go p e below s n0 k n Q (T.setTop (mkF m (pc + 3) Ls rest))) : Go p e below s n0 k n Q (T.setTop (mkF m pc Ls (y :: x :: rest))) := by
  obtain ⟨-, -, _, -, X⟩ := X
  by_cases q : x = y
  · exact Go.st (fun _ => Jvm.RoadKit.acmp (g := mkF m pc Ls (y :: x :: rest)) X C.hx rfl h1 h2 (same := true) rfl (hb C.hby hd) rfl (decide_eq_true q) ho (by rfl)) (N q)
  · exact Go.st (fun _ => Jvm.RoadKit.acmp (g := mkF m pc Ls (y :: x :: rest)) X C.hx rfl h1 h2 (same := false) rfl (hb C.hby hd) rfl (decide_eq_false q) ho (by rw [← hp]; rfl)) (Y q)
theorem Go.getF (C : Ctx p s m meth c Z a0 ws own nm bytes ml ret) (X : St p l e R s m args below meth c n0 T h cells slots) {O n1 d : String} {i : Nat} {a : Addr} {v : Value} (w : Jvm.Cond.fieldLink own i O n1 d ∈ ws) (F : Fld Z h a O n1 d v) (hd : decode bytes pc = .ok (.getfield i, 3)) (K : ∀ T', St p l e R s m args below meth c n0 T' h cells slots → Go p e below s n0 k n Q (T'.setTop (mkF m (pc + 3) Ls (v :: rest)))) : Go p e below s n0 k n Q (T.setTop (mkF m pc Ls (.ref a :: rest))) := by
  obtain ⟨e0, hz, locs, N, X⟩ := X
  obtain ⟨T', X', e', st⟩ := Jvm.RoadKit.getF X C.hx C.hZ C.hown (host := "") (Or.inl (C.w w)) Via.refl e0 F (g := mkF m pc Ls (.ref a :: rest)) rfl rfl (hb C.hby hd)
  exact Go.st st (K T' ⟨e', hz, locs, N, X'⟩)
theorem Go.getS (C : Ctx p s m meth c Z a0 ws own nm bytes ml ret) (X : St p l e R s m args below meth c n0 T h cells slots) {O n1 d : String} {i : Nat} {v : Value} (w : Jvm.Cond.fieldLink own i O n1 d ∈ ws) (F : Sta Z h O n1 d v) (hd : decode bytes pc = .ok (.getstatic i, 3)) (K : ∀ T', St p l e R s m args below meth c n0 T' h cells slots → Go p e below s n0 k n Q (T'.setTop (mkF m (pc + 3) Ls (v :: stk)))) : Go p e below s n0 k n Q (T.setTop (mkF m pc Ls stk)) := by
  obtain ⟨e0, hz, locs, N, X⟩ := X
  obtain ⟨T', X', e', st⟩ := Jvm.RoadKit.getS2 X C.hx C.hZ C.hown (host := "") (Or.inl (C.w w)) Via.refl e0 F (g := mkF m pc Ls stk) rfl (hb C.hby hd)
  exact Go.st st (K T' ⟨e', hz, locs, N, X'⟩)
theorem Go.putF (C : Ctx p s m meth c Z a0 ws own nm bytes ml ret) (X : St p l e R s m args below meth c n0 T h cells slots) {O n1 d C1 : String} {i kk : Nat} {ty : FieldType} {a : Addr} {v old : Value} (w : Jvm.Cond.fieldLink own i O n1 d ∈ ws) (F : Fld Z h a O n1 d old) (E : Exa Z h a C1) (L : Jvm.Cond.lays C1 O n1 d ∈ ws ∨ (Jvm.Cond.laysFinal C1 O n1 d ∈ ws ∧ own = O ∧ nm = "<init>")) (wi : Jvm.Cond.instantiable C1 kk ∈ ws)
    (hty : parseFieldDescriptor d = some ty) (hn : narrow ty v = v) (hf : fits ty v = true) (ha : n0 ≤ a) (hd : decode bytes pc = .ok (.putfield i, 3)) (K : ∀ T' h', St p l e R s m args below meth c n0 T' h' cells slots → Wr h h' a (Jvm.RoadKit.slotOf Z O n1 d) v → Fld Z h' a O n1 d v → Go p e below s n0 k n Q (T'.setTop (mkF m (pc + 3) Ls rest))) : Go p e below s n0 k n Q (T.setTop (mkF m pc Ls (v :: .ref a :: rest))) := by
  obtain ⟨e0, hz, locs, N, X⟩ := X
  obtain ⟨T', h', X', e', W, st⟩ := Jvm.RoadKit.putF X C.hx C.hZ C.hown (host := "") (Or.inl (C.w w)) Via.refl e0 F E (L.imp (fun q => C.w q) (fun q => ⟨C.w q.1, q.2.1, C.hnm.trans q.2.2⟩)) (C.w wi) hty hn hf (g := mkF m pc Ls (v :: .ref a :: rest)) rfl rfl (hb C.hby hd)
  exact Go.st st (K T' h' ⟨e', hz, _, Fr.snoc X' N ha, X'⟩ W (F.same W))
theorem Go.newO (C : Ctx p s m meth c Z a0 ws own nm bytes ml ret) (X : St p l e R s m args below meth c n0 T h cells slots) {C1 : String} {i kk : Nat} (w : Jvm.Cond.classLink own i C1 ∈ ws) (wi : Jvm.Cond.instantiable C1 kk ∈ ws) (wz : Jvm.Cond.initialized C1 ∈ ws) (hd : decode bytes pc = .ok (.new i, 3)) (hc : cells + 1 ≤ R.cells) (hl : slots + kk ≤ R.slots)
    (K : ∀ T' h' b, h.size = b → n0 ≤ b → St p l e R s m args below meth c n0 T' h' (cells + 1) (slots + kk) → Ext h h' → Exa Z h' b C1 → (∀ {O n1 d : String} {ty : FieldType}, (Jvm.Cond.lays C1 O n1 d ∈ ws ∨ Jvm.Cond.laysFinal C1 O n1 d ∈ ws) → parseFieldDescriptor d = some ty → Fld Z h' b O n1 d (defaultValue ty)) → Go p e below s n0 k n Q (T'.setTop (mkF m (pc + 3) Ls (.ref b :: stk)))) : Go p e below s n0 k n Q (T.setTop (mkF m pc Ls stk)) := by
  have hs := X.size
  obtain ⟨e0, hz, locs, N, X⟩ := X
  obtain ⟨T', h', X', e', E, E1, D, -, st⟩ := Jvm.RoadKit.newO X C.hx C.hZ C.hown (C.w w) (C.w wi) (C.w wz) e0 (g := mkF m pc Ls stk) rfl (hb C.hby hd) hc hl
  exact Go.st st (K T' h' _ rfl hs ⟨e', hz, _, N, X'⟩ E E1 (fun q r => D (q.imp (fun q => C.w q) (fun q => C.w q)) r))
theorem AR.of {cA : ClassId} {ty : FieldType} {z : Int32} {a : Addr} (F : Arr Z h a (newA cA ty z) ty) (q : ¬ z < 0) : AR Z h a ty (List.replicate z.toNatClampNeg (defaultValue ty)) :=
  ⟨_, F, by simp [newA], by rw [List.length_replicate]; exact (back32 q).2⟩
theorem Go.newP (C : Ctx p s m meth c Z a0 ws own nm bytes ml ret) (X : St p l e R s m args below meth c n0 T h cells slots) {aty : ArrayType} {z : Int32} {cap : Nat} (w : Jvm.Cond.arrayClass (newarray.typeOf aty) ∈ ws) (hd : decode bytes pc = .ok (.newarray aty, 2)) (hn : ¬ z < 0) (hcap : z.toNatClampNeg ≤ cap) (hb8 : cap * 8 ≤ 536870912) (hc : cells + 1 ≤ R.cells) (hl : slots + cap ≤ R.slots)
    (K : ∀ T' h' b, h.size = b → n0 ≤ b → St p l e R s m args below meth c n0 T' h' (cells + 1) (slots + cap) → Ext h h' → AR Z h' b (newarray.typeOf aty) (List.replicate z.toNatClampNeg (defaultValue (newarray.typeOf aty))) → Go p e below s n0 k n Q (T'.setTop (mkF m (pc + 2) Ls (.ref b :: rest)))) : Go p e below s n0 k n Q (T.setTop (mkF m pc Ls (.int z :: rest))) := by
  have hs := X.size
  obtain ⟨e0, hz, locs, N, X⟩ := X
  obtain ⟨T', h', cA, X', e', E, F, st⟩ := Jvm.RoadKit.newP X C.hx C.hZ (C.w w) e0 (g := mkF m pc Ls (.int z :: rest)) rfl (hb C.hby hd) rfl hn hcap hb8 hc hl
  exact Go.st st (K T' h' _ rfl hs ⟨e', hz, _, N, X'⟩ E (AR.of F hn))
theorem AR.lt {a : Addr} {ty : FieldType} {vs : List Value} (F : AR Z h a ty vs) : a < h.size := by obtain ⟨c, A, -⟩ := F; exact A.lt
theorem AR.ext {a : Addr} {ty : FieldType} {vs : List Value} (F : AR Z h a ty vs) (E : Ext h h') : AR Z h' a ty vs := by obtain ⟨c, A, r⟩ := F; exact ⟨c, A.ext E, r⟩
theorem AR.other {a b : Addr} {ty : FieldType} {vs : List Value} {sl : Nat} {v : Value} (F : AR Z h b ty vs) (W : Wr h h' a sl v) (q : b ≠ a) : AR Z h' b ty vs := by obtain ⟨c, A, r⟩ := F; exact ⟨c, A.other W q, r⟩
theorem AR.keep {a : Addr} {ty : FieldType} {vs : List Value} {us : List Addr} (F : AR Z h a ty vs) (K : Keep h h' us) (q : a ∉ us) : AR Z h' a ty vs := by obtain ⟨c, A, r⟩ := F; exact ⟨c, ⟨K.2.1 a c A.1 q, A.2⟩, r⟩
theorem AR.same {a : Addr} {ty : FieldType} {vs : List Value} {i : Nat} {v : Value} (F : AR Z h a ty vs) (W : Wr h h' a i v) : AR Z h' a ty (vs.set i v) := by
  obtain ⟨c, A, r, q⟩ := F
  refine ⟨_, A.same W, ?_, by rw [List.length_set]; exact q⟩
  simp [Cell.setSlot, r]
theorem AR.in {a : Addr} {ty : FieldType} {vs : List Value} {j : Int32} {c : Cell} (r : c.slots = vs.toArray) (hj : ¬ j < 0) (hl : j.toNatClampNeg < vs.length) : ¬ (j < 0 ∨ c.slots.size ≤ j.toNatClampNeg) := by
  rw [r]; simp; exact ⟨Int32.not_lt.mp hj, hl⟩
theorem AR.ne {a b : Addr} {ty : FieldType} {vs : List Value} (F : AR Z h a ty vs) (g : h.size = b) : a ≠ b := by subst g; exact Nat.ne_of_lt F.lt
theorem ltOf {vs : List Value} {i : Nat} {v : Value} (q : vs[i]? = some v) : i < vs.length := (List.getElem?_eq_some_iff.mp q).1
theorem Go.iaload (C : Ctx p s m meth c Z a0 ws own nm bytes ml ret) (X : St p l e R s m args below meth c n0 T h cells slots) {a : Addr} {vs : List Value} {j : Int32} {x : Int32} (F : AR Z h a .int vs) (hj : ¬ j < 0) (hv : vs[j.toNatClampNeg]? = some (.int x)) (hd : decode bytes pc = .ok (.iaload, 1)) (K : Go p e below s n0 k n Q (T.setTop (mkF m (pc + 1) Ls (.int x :: rest)))) : Go p e below s n0 k n Q (T.setTop (mkF m pc Ls (.int j :: .ref a :: rest))) := by
  obtain ⟨e0, hz, locs, N, X⟩ := X
  obtain ⟨cl, A, r, -⟩ := F
  exact Go.st (X.iaload C.hx (j := j) (v := .int x) (by rw [e0]; exact A.1) (State.isArrayOf_alike C.hZ.alike A.2.1) A.2.2 (AR.in (a := a) (ty := .int) r hj (ltOf hv)) (by rw [r]; simpa using hv) (g := mkF m pc Ls (.int j :: .ref a :: rest)) rfl rfl (hb C.hby hd)) K
theorem Go.laload (C : Ctx p s m meth c Z a0 ws own nm bytes ml ret) (X : St p l e R s m args below meth c n0 T h cells slots) {a : Addr} {vs : List Value} {j : Int32} {x : Int64} (F : AR Z h a .long vs) (hj : ¬ j < 0) (hv : vs[j.toNatClampNeg]? = some (.long x)) (hd : decode bytes pc = .ok (.laload, 1)) (K : Go p e below s n0 k n Q (T.setTop (mkF m (pc + 1) Ls (.long x :: rest)))) : Go p e below s n0 k n Q (T.setTop (mkF m pc Ls (.int j :: .ref a :: rest))) := by
  obtain ⟨e0, hz, locs, N, X⟩ := X
  obtain ⟨cl, A, r, -⟩ := F
  exact Go.st (X.laload C.hx (j := j) (v := .long x) (by rw [e0]; exact A.1) (State.isArrayOf_alike C.hZ.alike A.2.1) A.2.2 (AR.in (a := a) (ty := .long) r hj (ltOf hv)) (by rw [r]; simpa using hv) (g := mkF m pc Ls (.int j :: .ref a :: rest)) rfl rfl (hb C.hby hd)) K
theorem Go.baload (C : Ctx p s m meth c Z a0 ws own nm bytes ml ret) (X : St p l e R s m args below meth c n0 T h cells slots) {a : Addr} {vs : List Value} {j : Int32} {x : Int32} (F : AR Z h a .byte vs) (hj : ¬ j < 0) (hv : vs[j.toNatClampNeg]? = some (.int x)) (hd : decode bytes pc = .ok (.baload, 1)) (K : Go p e below s n0 k n Q (T.setTop (mkF m (pc + 1) Ls (.int x :: rest)))) : Go p e below s n0 k n Q (T.setTop (mkF m pc Ls (.int j :: .ref a :: rest))) := by
  obtain ⟨e0, hz, locs, N, X⟩ := X
  obtain ⟨cl, A, r, -⟩ := F
  exact Go.st (X.baloadBytes C.hx (j := j) (v := .int x) (by rw [e0]; exact A.1) (State.isArrayOf_alike C.hZ.alike A.2.1) A.2.2 (AR.in (a := a) (ty := .byte) r hj (ltOf hv)) (by rw [r]; simpa using hv) (g := mkF m pc Ls (.int j :: .ref a :: rest)) rfl rfl (hb C.hby hd)) K
theorem Go.aaload (C : Ctx p s m meth c Z a0 ws own nm bytes ml ret) (X : St p l e R s m args below meth c n0 T h cells slots) {a : Addr} {ty : FieldType} {vs : List Value} {j : Int32} {v : Value} (F : AR Z h a ty vs) (hty : ty.isReference = true) (hj : ¬ j < 0) (hv : vs[j.toNatClampNeg]? = some v) (hd : decode bytes pc = .ok (.aaload, 1)) (K : Go p e below s n0 k n Q (T.setTop (mkF m (pc + 1) Ls (v :: rest)))) : Go p e below s n0 k n Q (T.setTop (mkF m pc Ls (.int j :: .ref a :: rest))) := by
  obtain ⟨e0, hz, locs, N, X⟩ := X
  obtain ⟨cl, A, r, -⟩ := F
  exact Go.st (X.aaload C.hx (j := j) (v := v) (by rw [e0]; exact A.1) (State.isArrayOf_alike C.hZ.alike A.2.1) hty A.2.2 (AR.in (a := a) (ty := ty) r hj (ltOf hv)) (by rw [r]; simpa using hv) (g := mkF m pc Ls (.int j :: .ref a :: rest)) rfl rfl (hb C.hby hd)) K
theorem Go.alen (C : Ctx p s m meth c Z a0 ws own nm bytes ml ret) (X : St p l e R s m args below meth c n0 T h cells slots) {a : Addr} {ty : FieldType} {vs : List Value} {z : Int32} (F : AR Z h a ty vs) (hz : vs.length.toInt32 = z) (hd : decode bytes pc = .ok (.arraylength, 1)) (K : Go p e below s n0 k n Q (T.setTop (mkF m (pc + 1) Ls (.int z :: rest)))) : Go p e below s n0 k n Q (T.setTop (mkF m pc Ls (.ref a :: rest))) := by
  subst hz
  obtain ⟨e0, hz, locs, N, X⟩ := X
  obtain ⟨cl, A, r, -⟩ := F
  refine Go.st (X.arraylength C.hx (by rw [e0]; exact A.1) (State.isArrayOf_alike C.hZ.alike A.2.1) (g := mkF m pc Ls (.ref a :: rest)) rfl rfl (hb C.hby hd)) ?_
  rw [r]
  simpa using K
theorem Go.iastore (C : Ctx p s m meth c Z a0 ws own nm bytes ml ret) (X : St p l e R s m args below meth c n0 T h cells slots) {a : Addr} {vs : List Value} {j : Int32} {x : Int32} (F : AR Z h a .int vs) (hj : ¬ j < 0) (hl : j.toNatClampNeg < vs.length) (ha : n0 ≤ a) (hd : decode bytes pc = .ok (.iastore, 1)) (K : ∀ T' h', St p l e R s m args below meth c n0 T' h' cells slots → Wr h h' a j.toNatClampNeg (.int x) → AR Z h' a .int (vs.set j.toNatClampNeg (.int x)) → Go p e below s n0 k n Q (T'.setTop (mkF m (pc + 1) Ls rest))) : Go p e below s n0 k n Q (T.setTop (mkF m pc Ls (.int x :: .int j :: .ref a :: rest))) := by
  obtain ⟨e0, hz, locs, N, X⟩ := X
  have F0 := F
  obtain ⟨cl, A, r, -⟩ := F
  obtain ⟨T', h', X', e', W, st⟩ := Jvm.RoadKit.stI X C.hx C.hZ e0 A (j := j) (x := x) (AR.in (a := a) (ty := .int) r hj hl) (g := mkF m pc Ls (.int x :: .int j :: .ref a :: rest)) rfl rfl (hb C.hby hd)
  exact Go.st st (K T' h' ⟨e', hz, _, Fr.snoc X' N ha, X'⟩ W (F0.same W))
theorem Go.lastore (C : Ctx p s m meth c Z a0 ws own nm bytes ml ret) (X : St p l e R s m args below meth c n0 T h cells slots) {a : Addr} {vs : List Value} {j : Int32} {x : Int64} (F : AR Z h a .long vs) (hj : ¬ j < 0) (hl : j.toNatClampNeg < vs.length) (ha : n0 ≤ a) (hd : decode bytes pc = .ok (.lastore, 1)) (K : ∀ T' h', St p l e R s m args below meth c n0 T' h' cells slots → Wr h h' a j.toNatClampNeg (.long x) → AR Z h' a .long (vs.set j.toNatClampNeg (.long x)) → Go p e below s n0 k n Q (T'.setTop (mkF m (pc + 1) Ls rest))) : Go p e below s n0 k n Q (T.setTop (mkF m pc Ls (.long x :: .int j :: .ref a :: rest))) := by
  obtain ⟨e0, hz, locs, N, X⟩ := X
  have F0 := F
  obtain ⟨cl, A, r, -⟩ := F
  obtain ⟨T', h', X', e', W, st⟩ := Jvm.RoadKit.stJ X C.hx C.hZ e0 A (j := j) (x := x) (AR.in (a := a) (ty := .long) r hj hl) (g := mkF m pc Ls (.long x :: .int j :: .ref a :: rest)) rfl rfl (hb C.hby hd)
  exact Go.st st (K T' h' ⟨e', hz, _, Fr.snoc X' N ha, X'⟩ W (F0.same W))
theorem Go.bastore (C : Ctx p s m meth c Z a0 ws own nm bytes ml ret) (X : St p l e R s m args below meth c n0 T h cells slots) {a : Addr} {vs : List Value} {j : Int32} {x : Int32} (F : AR Z h a .byte vs) (hj : ¬ j < 0) (hl : j.toNatClampNeg < vs.length) (ha : n0 ≤ a) (hd : decode bytes pc = .ok (.bastore, 1)) (K : ∀ T' h', St p l e R s m args below meth c n0 T' h' cells slots → Wr h h' a j.toNatClampNeg (.int (nar .byte x)) → AR Z h' a .byte (vs.set j.toNatClampNeg (.int (nar .byte x))) → Go p e below s n0 k n Q (T'.setTop (mkF m (pc + 1) Ls rest))) : Go p e below s n0 k n Q (T.setTop (mkF m pc Ls (.int x :: .int j :: .ref a :: rest))) := by
  obtain ⟨e0, hz, locs, N, X⟩ := X
  have F0 := F
  obtain ⟨cl, A, r, -⟩ := F
  obtain ⟨T', h', X', e', W, st⟩ := Jvm.RoadKit.stB X C.hx C.hZ e0 A (j := j) (x := x) (AR.in (a := a) (ty := .byte) r hj hl) (g := mkF m pc Ls (.int x :: .int j :: .ref a :: rest)) rfl rfl (hb C.hby hd)
  exact Go.st st (K T' h' ⟨e', hz, _, Fr.snoc X' N ha, X'⟩ W (F0.same W))
theorem Con.back {y : MethodName} {rm : Room} {as : Array Value} {W : Nat} (H : Con l Z y bytes ml ret [] rm n0 as h Q) (hZ : Z.Warmed39 s.vm) (wc : (Jvm.Cond.code y bytes ml ret).before a0 Z = true) (wz : (Jvm.Cond.initialized y.cls).before a0 Z = true) (hf : rm.frames + 1 ≤ R.frames) (hl : W + (ml + 11) + rm.locals ≤ R.locals) :
    Back l R p e below s args y 3 W (fun A a => a = as ∧ A.U.heap = h ∧ A.cells + rm.cells ≤ R.cells ∧ A.slots + rm.slots ≤ R.slots)
      (fun A _ v B => ∃ L, (Q v B.U.heap ∧ Fr n0 L) ∧ B.locs = A.locs ++ L ∧ B.cells = A.cells + rm.cells ∧ B.slots = A.slots + rm.slots) :=
  backOf (Q := fun v h L => Q v h ∧ Fr n0 L) H hZ wc wz hf hl
theorem Go.callS (C : Ctx p s m meth c Z a0 ws own nm bytes ml ret) (X : St p l e R s m args below meth c n0 T h cells slots) {y : MethodName} {bytes' : ByteArray} {ml' : Nat} {ret' : Option FieldType} {rm : Room} {i W : Nat} {argsL : List Value} {Q' : Option Value → Heap → Prop} (w1 : Jvm.Cond.methodLink own i y ∈ ws) (w2 : Jvm.Cond.static y ∈ ws) (w3 : Jvm.Cond.initialized y.cls ∈ ws) (w4 : Jvm.Cond.code y bytes' ml' ret' ∈ ws) (hy : y.cls ≠ "java/lang/invoke/MethodHandle" ∧ y.cls ≠ "java/lang/invoke/VarHandle")
    (H : Con l Z y bytes' ml' ret' [] rm n0 argsL.toArray h Q') (hfr : rm.frames + 1 ≤ R.frames) (hlo : W + (ml' + 11) + rm.locals ≤ R.locals) (hsz : Ls.size = ml) (hlen : ∀ sig, parseMethodDescriptor y.desc = some sig → argsL.length = sig.parameters.length) (hW : (rest.map fun v => v.category).sum ≤ W) (hstk : stk = argsL.reverse ++ rest) (hd : decode bytes pc = .ok (.invokestatic i, 3)) (hce : cells + rm.cells ≤ R.cells) (hsl : slots + rm.slots ≤ R.slots) (K : ∀ T' h' v, St p l e R s m args below meth c n0 T' h' (cells + rm.cells) (slots + rm.slots) → Q' v h' → Go p e below s n0 k n Q (T'.setTop (mkF m (pc + 3) Ls (v.toList ++ rest)))) : Go p e below s n0 k n Q (T.setTop (mkF m pc Ls stk)) := by
  obtain ⟨e0, hz, locs, N, X⟩ := X
  obtain ⟨v, _, ⟨T', L', k', n'⟩, -, X', ⟨L, hQ, l1, y1, z1⟩, st⟩ := Jvm.LawKit.callS X C.hx (y := y) C.hown (mvT C.hZ (C.w w1)) (mvT C.hZ (C.w w2)) (mvT C.hZ (C.w w3)) (mvT C.hZ (C.w w4)) hy (H.back (W := W) C.hZ (C.w w4) (C.w w3) hfr hlo) (g := mkF m pc Ls stk) rfl (hsz.trans C.hml.symm) (argsL := argsL) (rest := rest) hlen hstk (by show 2 * 0 + _ ≤ _; omega) (hb C.hby hd) (fun _ _ => ⟨rfl, e0, hce, hsl⟩)
  dsimp only [Pt.U, Pt.locs, Pt.cells, Pt.slots] at X' l1 y1 z1 st hQ
  subst l1 y1 z1
  exact Go.st st (K T' _ v ⟨rfl, hz, _, N.app hQ.2, X'⟩ hQ.1)
theorem Go.callInit (C : Ctx p s m meth c Z a0 ws own nm bytes ml ret) (X : St p l e R s m args below meth c n0 T h cells slots) {y : MethodName} {bytes' : ByteArray} {ml' : Nat} {rm : Room} {i W : Nat} {argsL : List Value} {Q' : Option Value → Heap → Prop} {a : Addr} (hy1 : y.name = "<init>") (w1 : Jvm.Cond.methodLink own i y ∈ ws) (w2 : Jvm.Cond.instanceMethod y ∈ ws) (w3 : Jvm.Cond.initialized y.cls ∈ ws) (w4 : Jvm.Cond.code y bytes' ml' none ∈ ws) (hy : y.cls ≠ "java/lang/invoke/MethodHandle" ∧ y.cls ≠ "java/lang/invoke/VarHandle")
    (H : Con l Z y bytes' ml' none [] rm n0 (.ref a :: argsL).toArray h Q') (hfr : rm.frames + 1 ≤ R.frames) (hlo : W + (ml' + 11) + rm.locals ≤ R.locals) (hsz : Ls.size = ml) (hlen : ∀ sig, parseMethodDescriptor y.desc = some sig → argsL.length = sig.parameters.length) (hW : (rest.map fun v => v.category).sum ≤ W) (hstk : stk = argsL.reverse ++ .ref a :: rest) (hd : decode bytes pc = .ok (.invokespecial i, 3)) (hce : cells + rm.cells ≤ R.cells) (hsl : slots + rm.slots ≤ R.slots) (K : ∀ T' h' v, St p l e R s m args below meth c n0 T' h' (cells + rm.cells) (slots + rm.slots) → Q' v h' → Go p e below s n0 k n Q (T'.setTop (mkF m (pc + 3) Ls (v.toList ++ rest)))) : Go p e below s n0 k n Q (T.setTop (mkF m pc Ls stk)) := by
  obtain ⟨e0, hz, locs, N, X⟩ := X
  obtain ⟨v, _, ⟨T', L', k', n'⟩, -, X', ⟨L, hQ, l1, y1, z1⟩, st⟩ := X.specialBack C.hx (y := y) hy1 C.hown (mvT C.hZ (C.w w1)) (mvT C.hZ (C.w w2)) (mvT C.hZ (C.w w4)) hy (H.back (W := W) C.hZ (C.w w4) (C.w w3) hfr hlo) (g := mkF m pc Ls stk) rfl (hsz.trans C.hml.symm) (Steps.refl _) (a := a) (argsL := argsL) (rest := rest) hlen hstk (by show 2 * 0 + _ ≤ _; omega) (hb C.hby hd) (fun _ _ => ⟨rfl, e0, hce, hsl⟩)
  dsimp only [Pt.U, Pt.locs, Pt.cells, Pt.slots] at X' l1 y1 z1 st hQ
  subst l1 y1 z1
  exact Go.tr st (K T' _ v ⟨rfl, hz, _, N.app hQ.2, X'⟩ hQ.1)
theorem Go.callV (C : Ctx p s m meth c Z a0 ws own nm bytes ml ret) (X : St p l e R s m args below meth c n0 T h cells slots) {y : MethodName} {bytes' : ByteArray} {ml' : Nat} {ret' : Option FieldType} {rm : Room} {i W : Nat} {argsL : List Value} {Q' : Option Value → Heap → Prop} {a : Addr} {C1 : String} (E : Exa Z h a C1) (w1 : Jvm.Cond.methodLink own i y ∈ ws) (w2 : Jvm.Cond.declares y ∈ ws) (w5 : Jvm.Cond.selects C1 y y ∈ ws) (w6 : Jvm.Cond.instanceMethod y ∈ ws) (w3 : Jvm.Cond.initialized y.cls ∈ ws) (w4 : Jvm.Cond.code y bytes' ml' ret' ∈ ws) (hy : y.cls ≠ "java/lang/invoke/MethodHandle" ∧ y.cls ≠ "java/lang/invoke/VarHandle") (hC1 : C1 = y.cls)
    (H : Con l Z y bytes' ml' ret' [] rm n0 (.ref a :: argsL).toArray h Q') (hfr : rm.frames + 1 ≤ R.frames) (hlo : W + (ml' + 11) + rm.locals ≤ R.locals) (hsz : Ls.size = ml) (hlen : ∀ sig, parseMethodDescriptor y.desc = some sig → argsL.length = sig.parameters.length) (hW : (rest.map fun v => v.category).sum ≤ W) (hstk : stk = argsL.reverse ++ .ref a :: rest) (hd : decode bytes pc = .ok (.invokevirtual i, 3)) (hce : cells + rm.cells ≤ R.cells) (hsl : slots + rm.slots ≤ R.slots) (K : ∀ T' h' v, St p l e R s m args below meth c n0 T' h' (cells + rm.cells) (slots + rm.slots) → Q' v h' → Go p e below s n0 k n Q (T'.setTop (mkF m (pc + 3) Ls (v.toList ++ rest)))) : Go p e below s n0 k n Q (T.setTop (mkF m pc Ls stk)) := by
  subst hC1
  obtain ⟨e0, hz, locs, N, X⟩ := X
  obtain ⟨cq, kq, qa, qb, qc⟩ := isOf (T := T) C.hZ e0 E
  obtain ⟨v, _, ⟨T', L', k', n'⟩, -, X', ⟨L, hQ, l1, y1, z1⟩, st⟩ := X.virtualBack C.hx (y := y) (z := y) C.hown (mvT C.hZ (C.w w1)) (mvT C.hZ (C.w w2)) (notFace_of_selects (args := #[]) (mvT C.hZ (C.w w5))) (mvT C.hZ (C.w w5)) (mvT C.hZ (C.w w6)) hy (H.back (W := W) C.hZ (C.w w4) (C.w w3) hfr hlo) qa qc (g := mkF m pc Ls stk) rfl (hsz.trans C.hml.symm) (Steps.refl _) (argsL := argsL) (rest := rest) hlen hstk (by show 2 * 0 + _ ≤ _; omega) (hb C.hby hd) (fun _ _ => ⟨rfl, e0, hce, hsl⟩)
  dsimp only [Pt.U, Pt.locs, Pt.cells, Pt.slots] at X' l1 y1 z1 st hQ
  subst l1 y1 z1
  exact Go.tr st (K T' _ v ⟨rfl, hz, _, N.app hQ.2, X'⟩ hQ.1)
theorem Go.initO (C : Ctx p s m meth c Z a0 ws own nm bytes ml ret) (X : St p l e R s m args below meth c n0 T h cells slots) {i W : Nat} {a : Addr} (w1 : Jvm.Cond.methodLink own i Lib.objectInit ∈ ws) (w2 : Jvm.Cond.instanceMethod Lib.objectInit ∈ ws) (w3 : Jvm.Cond.code Lib.objectInit ⟨#[0xb1]⟩ 1 none ∈ ws) (hsz : Ls.size = ml) (hd : decode bytes pc = .ok (.invokespecial i, 3)) (hf : 1 ≤ R.frames) (hW : (rest.map fun v => v.category).sum ≤ W) (hl : W + 12 ≤ R.locals) (K : ∀ T', St p l e R s m args below meth c n0 T' h cells slots → Go p e below s n0 k n Q (T'.setTop (mkF m (pc + 3) Ls rest))) : Go p e below s n0 k n Q (T.setTop (mkF m pc Ls (.ref a :: rest))) := by
  obtain ⟨e0, hz, locs, N, X⟩ := X
  obtain ⟨T', X', e', st⟩ := Jvm.RoadKit.initO X C.hx C.hZ C.hown (C.w w1) (C.w w2) (C.w w3) e0 (g := mkF m pc Ls (.ref a :: rest)) rfl (hsz.trans C.hml.symm) rfl (hb C.hby hd) hf (W := W) (by show 2 * 0 + _ ≤ _; omega) hl
  exact Go.st st (K T' ⟨e', hz, locs, N, X'⟩)
theorem Go.ldcI (C : Ctx p s m meth c Z a0 ws own nm bytes ml ret) (X : St p l e R s m args below meth c n0 T h cells slots) {i : Nat} {x : Int32} (w : Jvm.Cond.constant own i x ∈ ws) (hd : decode bytes pc = .ok (.ldc i, 2)) (K : Go p e below s n0 k n Q (T.setTop (mkF m (pc + 2) Ls (.int x :: stk)))) : Go p e below s n0 k n Q (T.setTop (mkF m pc Ls stk)) := by
  obtain ⟨e0, hz, locs, N, X⟩ := X
  exact Go.st (fun _ => X.ldcI (g := mkF m pc Ls stk) C.hx C.hown (mvT C.hZ (C.w w)) rfl (hb C.hby hd)) K
theorem Go.ldcW (C : Ctx p s m meth c Z a0 ws own nm bytes ml ret) (X : St p l e R s m args below meth c n0 T h cells slots) {i : Nat} {x : Int32} (w : Jvm.Cond.constant own i x ∈ ws) (hd : decode bytes pc = .ok (.ldc_w i, 3)) (K : Go p e below s n0 k n Q (T.setTop (mkF m (pc + 3) Ls (.int x :: stk)))) : Go p e below s n0 k n Q (T.setTop (mkF m pc Ls stk)) := by
  obtain ⟨e0, hz, locs, N, X⟩ := X
  exact Go.st (fun _ => X.ldcWI (g := mkF m pc Ls stk) C.hx C.hown (mvT C.hZ (C.w w)) rfl (hb C.hby hd)) K
theorem Go.ldcJ (C : Ctx p s m meth c Z a0 ws own nm bytes ml ret) (X : St p l e R s m args below meth c n0 T h cells slots) {i : Nat} {x : Int64} (w : Jvm.Cond.constantLong own i x ∈ ws) (hd : decode bytes pc = .ok (.ldc2_w i, 3)) (K : Go p e below s n0 k n Q (T.setTop (mkF m (pc + 3) Ls (.long x :: stk)))) : Go p e below s n0 k n Q (T.setTop (mkF m pc Ls stk)) := by
  obtain ⟨e0, hz, locs, N, X⟩ := X
  exact Go.st (fun _ => X.ldc2J (g := mkF m pc Ls stk) C.hx C.hown (mvT C.hZ (C.w w)) rfl (hb C.hby hd)) K
theorem Go.irem (C : Ctx p s m meth c Z a0 ws own nm bytes ml ret) (X : St p l e R s m args below meth c n0 T h cells slots) {x y : Int32} (hy : y ≠ 0) (hd : decode bytes pc = .ok (.irem, 1)) (K : Go p e below s n0 k n Q (T.setTop (mkF m (pc + 1) Ls (.int (x % y) :: rest)))) : Go p e below s n0 k n Q (T.setTop (mkF m pc Ls (.int y :: .int x :: rest))) := by
  obtain ⟨e0, hz, locs, N, X⟩ := X
  exact Go.st (fun _ => Jvm.RoadKit.iremM (g := mkF m pc Ls (.int y :: .int x :: rest)) X C.hx rfl (hb C.hby hd) rfl hy) K
theorem Go.lrem (C : Ctx p s m meth c Z a0 ws own nm bytes ml ret) (X : St p l e R s m args below meth c n0 T h cells slots) {x y : Int64} (hy : y ≠ 0) (hd : decode bytes pc = .ok (.lrem, 1)) (K : Go p e below s n0 k n Q (T.setTop (mkF m (pc + 1) Ls (.long (x % y) :: rest)))) : Go p e below s n0 k n Q (T.setTop (mkF m pc Ls (.long y :: .long x :: rest))) := by
  refine Go.st (fun _ => XS.lrem (g := mkF m pc Ls (.long y :: .long x :: rest)) X.here C.hx rfl (hb C.hby hd) rfl hy) ?_
  rw [lrem_mod]
  exact K
theorem Go.dupX2 (C : Ctx p s m meth c Z a0 ws own nm bytes ml ret) (X : St p l e R s m args below meth c n0 T h cells slots) {x y z : Value} (h1 : x.category = 1) (h2 : y.category = 1) (h3 : z.category = 1) (hd : decode bytes pc = .ok (.dup_x2, 1)) (K : Go p e below s n0 k n Q (T.setTop (mkF m (pc + 1) Ls (x :: y :: z :: x :: rest)))) : Go p e below s n0 k n Q (T.setTop (mkF m pc Ls (x :: y :: z :: rest))) := by
  refine Go.st (fun t hr => ?_) K
  have hx := C.hx
  have hd' := hb C.hby hd
  jvm_step X.here [X.here.top, hx, hd', h1, h2, h3]
  exact hr
theorem eqI_v {args : Array Value} {first s : State} {o : Option Outcome} {idx : List Nat} {t : Term} {z : Int32} (q : (Jvm.Cond.eq t (Term.int z)).value args first o s idx = some true) : t.eval args first o idx s = some (.int z) := by
  obtain ⟨x, y, ha, hb, k1, k2⟩ := cmp_v (Or.inl q)
  have hy : y = .int z := by
    have r := Term.int_eval (args := args) (first := first) (o := o) (idx := idx) (s := s) z
    rw [r] at hb; exact (Option.some.inj hb).symm
  subst hy
  obtain ⟨u, rfl⟩ := k2
  rw [ha, gotT (Cond.eq_ints ha hb) q]
theorem fieldNe {args : Array Value} {first s : State} {o : Option Outcome} {idx : List Nat} {t t' : Term} {C f d : String} {a b : Addr} {z z' : Int32} (h1 : t.eval args first o idx s = some (.ref a)) (h2 : t'.eval args first o idx s = some (.ref b)) (q1 : (Jvm.Cond.eq (Term.field t C f d) (Term.int z)).value args first o s idx = some true) (q2 : (Jvm.Cond.eq (Term.field t' C f d) (Term.int z')).value args first o s idx = some true) (hz : z ≠ z') : a ≠ b := by
  intro r; subst r
  have e1 := eqI_v q1; have e2 := eqI_v q2
  rw [fld_at h1] at e1; rw [fld_at h2] at e2
  rw [e1] at e2
  cases e2; exact hz rfl
/-- an array whose elements are known and that may be cloned -/
def AF (Z : State) (h : Heap) (a : Addr) (ty : FieldType) (vs : List Value) : Prop := ∃ c : Cell, Arr Z h a c ty ∧ c.slots = vs.toArray ∧ vs.length < 2 ^ 31 ∧ FitC Z c
theorem AF.ar {a : Addr} {ty : FieldType} {vs : List Value} (F : AF Z h a ty vs) : AR Z h a ty vs := by obtain ⟨c, A, r, q, -⟩ := F; exact ⟨c, A, r, q⟩
theorem Go.clone (C : Ctx p s m meth c Z a0 ws own nm bytes ml ret) (X : St p l e R s m args below meth c n0 T h cells slots) {ad : String} {i W cap : Nat} {a : Addr} {ty : FieldType} {vs : List Value} (w1 : Jvm.Cond.methodLink own i ⟨ad, "clone", "()Ljava/lang/Object;"⟩ ∈ ws) (w2 : Jvm.Cond.sameMethod ad "java/lang/Object" "clone" "()Ljava/lang/Object;" ∈ ws) (w3 : Jvm.Cond.native ⟨"java/lang/Object", "clone", "()Ljava/lang/Object;"⟩ ∈ ws) (w4 : Jvm.Cond.instanceMethod ⟨"java/lang/Object", "clone", "()Ljava/lang/Object;"⟩ ∈ ws)
    (w5 : Jvm.Cond.selects ad ⟨ad, "clone", "()Ljava/lang/Object;"⟩ ⟨"java/lang/Object", "clone", "()Ljava/lang/Object;"⟩ ∈ ws) (w6 : Jvm.Cond.castable ad "java/lang/Cloneable" ∈ ws) (F : AF Z h a ty vs) (E : Exa Z h a ad) (hsz : Ls.size = ml) (hd : decode bytes pc = .ok (.invokevirtual i, 3)) (hf : 1 ≤ R.frames) (hW : (rest.map fun v => v.category).sum ≤ W) (hl : W + 14 ≤ R.locals) (hcap : vs.length ≤ cap) (hc : cells + 1 ≤ R.cells) (hsl : slots + cap ≤ R.slots)
    (K : ∀ T' h' b, h.size = b → n0 ≤ b → St p l e R s m args below meth c n0 T' h' (cells + 1) (slots + cap) → Ext h h' → AR Z h' b ty vs → Exa Z h' b ad → Go p e below s n0 k n Q (T'.setTop (mkF m (pc + 3) Ls (.ref b :: rest)))) : Go p e below s n0 k n Q (T.setTop (mkF m pc Ls (.ref a :: rest))) := by
  have hs := X.size
  obtain ⟨e0, hz, locs, N, X⟩ := X
  obtain ⟨cl, A, r, q, FC⟩ := F
  obtain ⟨T', h', X', e', Ex, A', E', st⟩ := Jvm.RoadKit.cloneA X C.hx C.hZ C.hown (C.w w1) (C.w w2) (C.w w3) (C.w w4) (C.w w5) (C.w w6) e0 A E FC (g := mkF m pc Ls (.ref a :: rest)) rfl (hsz.trans C.hml.symm) rfl (hb C.hby hd) hf (W := W) (cap := cap) (by show 2 * 0 + _ ≤ _; omega) hl (by rw [r]; simpa using hcap) hc hsl
  exact Go.st st (K T' h' _ rfl hs ⟨e', hz, _, N, X'⟩ Ex ⟨_, A', r, q⟩ E')
theorem Go.cast (C : Ctx p s m meth c Z a0 ws own nm bytes ml ret) (X : St p l e R s m args below meth c n0 T h cells slots) {i : Nat} {K1 : String} {a : Addr} (w : Jvm.Cond.classLink own i K1 ∈ ws) (F : Ins Z h a K1 true) (hd : decode bytes pc = .ok (.checkcast i, 3)) (K : ∀ T', St p l e R s m args below meth c n0 T' h cells slots → Go p e below s n0 k n Q (T'.setTop (mkF m (pc + 3) Ls (.ref a :: rest)))) : Go p e below s n0 k n Q (T.setTop (mkF m pc Ls (.ref a :: rest))) := by
  obtain ⟨e0, hz, locs, N, X⟩ := X
  obtain ⟨T', X', e', st⟩ := Jvm.RoadKit.castY X C.hx C.hZ C.hown (C.w w) e0 F (g := mkF m pc Ls (.ref a :: rest)) rfl rfl (hb C.hby hd)
  exact Go.st st (K T' ⟨e', hz, locs, N, X'⟩)
theorem elemRef {args : Array Value} {s : State} {t t' : Term} {a x : Addr} {cl : Cell} {j : Int32} (q : (Jvm.Cond.eq (Term.elem t (Term.int j)) t').value args s none s [] = some true) (ht : t.eval args s none [] s = some (.ref a)) (ht' : t'.eval args s none [] s = some (.ref x)) (hc : s.heap[a]? = some cl) : cl.slots[j.toNatClampNeg]? = some (.ref x) := by
  obtain ⟨u, v, ha, hb, k1, k2⟩ := cmp_v (Or.inl q)
  rw [ht'] at hb
  cases hb
  have e := gotT (eq_R ha ht' k2.2 rfl) q
  subst e
  exact (elem_in ha ht (Term.int_eval j) hc).2
theorem fldI {args : Array Value} {s : State} {t : Term} {a : Addr} {C f d : String} {z : Int32} (q : (Jvm.Cond.eq (Term.field t C f d) (Term.int z)).value args s none s [] = some true) (ht : t.eval args s none [] s = some (.ref a)) : Fld s s.heap a C f d (.int z) := by
  have e := eqI_v q
  rw [fld_at ht] at e
  exact Fld.start e
theorem lenOf' {args : Array Value} {s : State} {t : Term} {a : Addr} {cl : Cell} {ty : FieldType} {z : Int32} (q : (Jvm.Cond.eq (Term.length t) (Term.int z)).value args s none s [] = some true) (ht : t.eval args s none [] s = some (.ref a)) (A : Arr s s.heap a cl ty) : cl.slots.size.toInt32 = z ∧ cl.slots.size < 2 ^ 31 := by
  obtain ⟨b, cell, h1, h2, h3, h4⟩ := Jvm.Lib.length_spec (eqI_v q)
  rw [ht] at h1
  cases h1
  rw [A.fin (Vm.Alike.refl _)] at h2
  cases h2
  exact ⟨(Value.int.inj h4).symm, h3⟩
theorem Go.newPE (C : Ctx p s m meth c Z a0 ws own nm bytes ml ret) (X : St p l e R s m args below meth c n0 T h cells slots) {aty : ArrayType} {z : Int32} {cap : Nat} {ad : String} (w : Jvm.Cond.arrayClass (newarray.typeOf aty) ∈ ws) (had : "[" ++ (newarray.typeOf aty).toString = ad) (hd : decode bytes pc = .ok (.newarray aty, 2)) (hn : ¬ z < 0) (hcap : z.toNatClampNeg ≤ cap) (hb8 : cap * 8 ≤ 536870912) (hc : cells + 1 ≤ R.cells) (hl : slots + cap ≤ R.slots)
    (K : ∀ T' h' b, h.size = b → n0 ≤ b → St p l e R s m args below meth c n0 T' h' (cells + 1) (slots + cap) → Ext h h' → AR Z h' b (newarray.typeOf aty) (List.replicate z.toNatClampNeg (defaultValue (newarray.typeOf aty))) → Exa Z h' b ad → Go p e below s n0 k n Q (T'.setTop (mkF m (pc + 2) Ls (.ref b :: rest)))) : Go p e below s n0 k n Q (T.setTop (mkF m pc Ls (.int z :: rest))) := by
  have hs := X.size
  obtain ⟨e0, hz, locs, N, X⟩ := X
  obtain ⟨T', h', cA, X', e', E, F, EX, st⟩ := Jvm.RoadKit.newPE X C.hx C.hZ (C.w w) e0 (g := mkF m pc Ls (.int z :: rest)) rfl (hb C.hby hd) rfl hn hcap hb8 hc hl had
  exact Go.st st (K T' h' _ rfl hs ⟨e', hz, _, N, X'⟩ E (AR.of F hn) EX)
theorem AF.zero {a : Addr} {N : Nat} (F : AR Z h a .byte (List.replicate N (.int (0 : Int32)))) : AF Z h a .byte (List.replicate N (.int (0 : Int32))) := by
  obtain ⟨c, A, r, q⟩ := F
  refine ⟨c, A, r, q, fitC_of A fun i hi v hv => ?_⟩
  rw [r, List.getElem?_toArray, List.getElem?_replicate] at hv
  split at hv
  · cases hv; rfl
  · cases hv
theorem AR.arv0 {a : Addr} {N : Nat} (F : AR Z h a .byte (List.replicate N (.int (0 : Int32)))) : ∃ k, Arv Z h a k .byte N.toInt32 (List.replicate N (.int (0 : Int32))) (.int (0 : Int32)) := by
  obtain ⟨c, A, r, q⟩ := F
  rw [List.length_replicate] at q
  have sz : c.slots.size = N := by rw [r]; simp
  have cN : N.toInt32.toNatClampNeg = N := by simp only [Int32.toNatClampNeg, len_toInt q]; rfl
  have g0 : ∀ i, (List.replicate N (Value.int (0 : Int32))).getD i (.int (0 : Int32)) = .int (0 : Int32) := fun i => by
    rw [List.getD_eq_getElem?_getD, List.getElem?_replicate]; split <;> rfl
  refine ⟨c.cls, c, A, rfl, by rw [sz, cN], ?_, fun i hi => ?_, fun i _ => by rw [g0]; rfl⟩
  · rw [Int32.lt_iff_toInt_lt, len_toInt q]
    have h0 : (0 : Int32).toInt = 0 := rfl
    omega
  · rw [g0, r]
    rw [sz] at hi
    simp [List.getElem?_replicate, hi]
theorem Arv.ar0 {a : Addr} {k : ClassId} {N : Nat} {vs : List Value} (hN : N < 2 ^ 31) (F : Arv Z h a k .byte N.toInt32 vs (.int (0 : Int32))) (hv : ∀ i, vs.getD i (.int (0 : Int32)) = .int (0 : Int32)) : AR Z h a .byte (List.replicate N (.int (0 : Int32))) := by
  obtain ⟨c, A, -, S, -, H, -⟩ := F
  have cN : N.toInt32.toNatClampNeg = N := by simp only [Int32.toNatClampNeg, len_toInt hN]; rfl
  rw [cN] at S
  refine ⟨c, A, ?_, by rw [List.length_replicate]; exact hN⟩
  apply Array.ext_getElem?
  intro i
  by_cases q : i < N
  · rw [H i (by omega), hv]; simp [List.getElem?_replicate, q]
  · rw [Array.getElem?_eq_none (by omega), Array.getElem?_eq_none (by simp; omega)]
theorem Go.acopy0 (C : Ctx p s m meth c Z a0 ws own nm bytes ml ret) (X : St p l e R s m args below meth c n0 T h cells slots) {i W : Nat} {a b : Addr} {n1 n2 : Nat} {nn : Int32} (w1 : Jvm.Cond.methodLink own i Jvm.Stand.acN ∈ ws) (w2 : Jvm.Cond.native Jvm.Stand.acN ∈ ws) (w3 : Jvm.Cond.static Jvm.Stand.acN ∈ ws) (w4 : Jvm.Cond.initialized "java/lang/System" ∈ ws) (F1 : AR Z h a .byte (List.replicate n1 (.int (0 : Int32)))) (F2 : AR Z h b .byte (List.replicate n2 (.int (0 : Int32)))) (hnn : ¬ nn < 0) (h1 : nn.toNatClampNeg ≤ n1) (h2 : nn.toNatClampNeg ≤ n2) (gb : n0 ≤ b) (hsz : Ls.size = ml)
    (hd : decode bytes pc = .ok (.invokestatic i, 3)) (hf : 1 ≤ R.frames) (hW : (rest.map fun v => v.category).sum ≤ W) (hlo : W + (nativeFrameWords "java/lang/System" "arraycopy" 5 + 11) ≤ R.locals)
    (K : ∀ T' h', St p l e R s m args below meth c n0 T' h' cells slots → Keep h h' [b] → AR Z h' b .byte (List.replicate n2 (.int (0 : Int32))) → Go p e below s n0 k n Q (T'.setTop (mkF m (pc + 3) Ls rest))) : Go p e below s n0 k n Q (T.setTop (mkF m pc Ls (.int nn :: .int 0 :: .ref b :: .int 0 :: .ref a :: rest))) := by
  obtain ⟨e0, hz, locs, N, X⟩ := X
  obtain ⟨k1, V1⟩ := F1.arv0
  obtain ⟨k2, V2⟩ := F2.arv0
  have q1 : n1 < 2 ^ 31 := by obtain ⟨_, _, _, q⟩ := F1; rw [List.length_replicate] at q; exact q
  have q2 : n2 < 2 ^ 31 := by obtain ⟨_, _, _, q⟩ := F2; rw [List.length_replicate] at q; exact q
  have c1 : n1.toInt32.toNatClampNeg = n1 := by simp only [Int32.toNatClampNeg, len_toInt q1]; rfl
  have c2 : n2.toInt32.toNatClampNeg = n2 := by simp only [Int32.toNatClampNeg, len_toInt q2]; rfl
  have z0 : (0 : Int32).toNatClampNeg = 0 := rfl
  obtain ⟨T', h', L, X', e', N', KK, V', st⟩ := cpA X C.hx C.hZ C.hown (C.w w1) (C.w w2) (C.w w3) (C.w w4) e0 V1 V2 (sp := 0) (dp := 0) (nn := nn) (Or.inl ⟨rfl, rfl⟩) (by decide) (by decide) hnn (by rw [z0, c1]; omega) (by rw [z0, c2]; omega) rfl (by rw [z0, List.length_replicate]; omega) N gb (g := mkF m pc Ls (.int nn :: .int 0 :: .ref b :: .int 0 :: .ref a :: rest)) rfl (hsz.trans C.hml.symm) rfl (hb C.hby hd) hf (W := W) (by show 2 * 0 + _ ≤ _; omega) hlo
  refine Go.st st (K T' h' ⟨e', hz, L, N', X'⟩ KK (Arv.ar0 q2 V' fun j => ?_))
  have g0 : ∀ (vs : List Value), (∀ x ∈ vs, x = .int (0 : Int32)) → vs.getD j (.int (0 : Int32)) = .int (0 : Int32) := fun vs hv => by
    rw [List.getD_eq_getElem?_getD]
    cases hq : vs[j]? with
    | none => rfl
    | some x => exact hv x (List.mem_of_getElem? hq)
  refine g0 _ fun x hx => ?_
  rcases List.mem_append.mp hx with hx | hx
  · rcases List.mem_append.mp hx with hx | hx
    · rw [z0] at hx; simp at hx
    · obtain ⟨y, -, rfl⟩ := List.mem_map.mp hx
      rw [List.getD_eq_getElem?_getD, List.getElem?_replicate]; split <;> rfl
  · exact (List.mem_replicate.mp (List.mem_of_mem_drop hx)).2
end One
end Jvm.OwnGo
namespace Jvm.Pilot.@@N@@
open Jvm Jvm.ClassFile Sem Op Lib Jvm.Free Jvm.Stand Jvm.LawKit Jvm.RoadKit Bundle Jvm.OwnGo Jvm.Pilot.@@N@@.Jvm.D
def R5 (k : Int32) : Prop := k = 0 ∨ k = 1 ∨ k = 2 ∨ k = 3 ∨ k = 4
def bl (x k : Int32) : List Int32 := [nar .byte x.toInt8.toInt32, nar .byte (x >>> ((8 : Int32) &&& 31)).toInt8.toInt32, nar .byte (x >>> ((16 : Int32) &&& 31)).toInt8.toInt32, nar .byte (x >>> ((24 : Int32) &&& 31)).toInt8.toInt32].take k.toNatClampNeg
def eqL : List Int32 → List Int32 → List Int32 → Bool
  | x :: xs, y :: ys, z :: zs => decide ((x &&& z) = (y &&& z)) && eqL xs ys zs
  | _, _, _ => true
def eqmF (xs ys zs : List Int32) : Int32 := if xs.length = ys.length ∧ xs.length = zs.length ∧ eqL xs ys zs = true then 1 else 0
def lowF (k : Int32) : Int32 := if k = 0 then 0 else if k = 1 then 255 else if k = 2 then 65535 else if k = 3 then 16777215 else -1
theorem d1_0 : decode method_2_code 0 = .ok (.iload_n 1, 1) := by decide +kernel
theorem d1_1 : decode method_2_code 1 = .ok (.newarray .byte, 2) := by decide +kernel
theorem d1_3 : decode method_2_code 3 = .ok (.astore_n 2, 1) := by decide +kernel
theorem d1_4 : decode method_2_code 4 = .ok (.iload_n 1, 1) := by decide +kernel
theorem d1_5 : decode method_2_code 5 = .ok (.ifCond .le 8, 3) := by decide +kernel
theorem d1_8 : decode method_2_code 8 = .ok (.aload_n 2, 1) := by decide +kernel
theorem d1_9 : decode method_2_code 9 = .ok (.iconst 0, 1) := by decide +kernel
theorem d1_10 : decode method_2_code 10 = .ok (.iload_n 0, 1) := by decide +kernel
theorem d1_11 : decode method_2_code 11 = .ok (.i2b, 1) := by decide +kernel
theorem d1_12 : decode method_2_code 12 = .ok (.bastore, 1) := by decide +kernel
theorem d1_13 : decode method_2_code 13 = .ok (.iload_n 1, 1) := by decide +kernel
theorem d1_14 : decode method_2_code 14 = .ok (.iconst 1, 1) := by decide +kernel
theorem d1_15 : decode method_2_code 15 = .ok (.if_icmp .le 11, 3) := by decide +kernel
theorem d1_18 : decode method_2_code 18 = .ok (.aload_n 2, 1) := by decide +kernel
theorem d1_19 : decode method_2_code 19 = .ok (.iconst 1, 1) := by decide +kernel
theorem d1_20 : decode method_2_code 20 = .ok (.iload_n 0, 1) := by decide +kernel
theorem d1_21 : decode method_2_code 21 = .ok (.bipush 8, 2) := by decide +kernel
theorem d1_23 : decode method_2_code 23 = .ok (.ishr, 1) := by decide +kernel
theorem d1_24 : decode method_2_code 24 = .ok (.i2b, 1) := by decide +kernel
theorem d1_25 : decode method_2_code 25 = .ok (.bastore, 1) := by decide +kernel
theorem d1_26 : decode method_2_code 26 = .ok (.iload_n 1, 1) := by decide +kernel
theorem d1_27 : decode method_2_code 27 = .ok (.iconst 2, 1) := by decide +kernel
theorem d1_28 : decode method_2_code 28 = .ok (.if_icmp .le 11, 3) := by decide +kernel
theorem d1_31 : decode method_2_code 31 = .ok (.aload_n 2, 1) := by decide +kernel
theorem d1_32 : decode method_2_code 32 = .ok (.iconst 2, 1) := by decide +kernel
theorem d1_33 : decode method_2_code 33 = .ok (.iload_n 0, 1) := by decide +kernel
theorem d1_34 : decode method_2_code 34 = .ok (.bipush 16, 2) := by decide +kernel
theorem d1_36 : decode method_2_code 36 = .ok (.ishr, 1) := by decide +kernel
theorem d1_37 : decode method_2_code 37 = .ok (.i2b, 1) := by decide +kernel
theorem d1_38 : decode method_2_code 38 = .ok (.bastore, 1) := by decide +kernel
theorem d1_39 : decode method_2_code 39 = .ok (.iload_n 1, 1) := by decide +kernel
theorem d1_40 : decode method_2_code 40 = .ok (.iconst 3, 1) := by decide +kernel
theorem d1_41 : decode method_2_code 41 = .ok (.if_icmp .le 11, 3) := by decide +kernel
theorem d1_44 : decode method_2_code 44 = .ok (.aload_n 2, 1) := by decide +kernel
theorem d1_45 : decode method_2_code 45 = .ok (.iconst 3, 1) := by decide +kernel
theorem d1_46 : decode method_2_code 46 = .ok (.iload_n 0, 1) := by decide +kernel
theorem d1_47 : decode method_2_code 47 = .ok (.bipush 24, 2) := by decide +kernel
theorem d1_49 : decode method_2_code 49 = .ok (.ishr, 1) := by decide +kernel
theorem d1_50 : decode method_2_code 50 = .ok (.i2b, 1) := by decide +kernel
theorem d1_51 : decode method_2_code 51 = .ok (.bastore, 1) := by decide +kernel
theorem d1_52 : decode method_2_code 52 = .ok (.aload_n 2, 1) := by decide +kernel
theorem d1_53 : decode method_2_code 53 = .ok (.areturn, 1) := by decide +kernel
theorem pf_1 : plainFor (⟨"com/example/strict_attest/strictattest/intel/CollateralBodyEqualUnderMaskPinLaw", "bytes", "(II)[B"⟩ : MethodName) = true := plainFor_of_name (by first | (simp [plainName, overriddenIn]; done) | decide +kernel)
theorem pd_1 : parseMethodDescriptor "(II)[B" = some ⟨[.int, .int], some (.array .byte)⟩ := by decide +kernel
set_option maxRecDepth 65536 in
set_option maxHeartbeats 40000000 in
theorem con_bytes (l : Launch) (Z : State) (a0 : Array Value) (hw : ∀ d ∈ tables_1, d.before a0 Z = true) (n0 : Nat) (h0 : Heap) (Z0 : n0 ≤ h0.size) (x k : Int32) (hk : R5 k) :
    Con l Z (⟨"com/example/strict_attest/strictattest/intel/CollateralBodyEqualUnderMaskPinLaw", "bytes", "(II)[B"⟩ : MethodName) method_2_code 3 (some (.array .byte)) [] ({ frames := 0, cells := 1, slots := 4, locals := 0 } : Room) n0 #[(.int x), (.int k)] h0 (fun v h => ∃ b, v = some (.ref b) ∧ AR Z h b .byte ((bl x k).map Value.int) ∧ Keep h0 h []) := by
  refine Con.mk pf_1 hw Z0 ?_
  intro p e s m below meth c T0 C X0
  have ef : entryFrame m #[(.int x), (.int k)] 3 = mkF m 0 #[.val (.int x), .val (.int k), .unset] [] := by first | (simp [entryFrame, mkF, argsToLocals, Value.category]; done) | rfl
  rw [ef]
  rcases hk with rfl | rfl | rfl | rfl | rfl
  · show Go p e below s n0 _ _ _ (T0.setTop (mkF m 0 #[.val (.int x), .val (.int (0 : Int32)), .unset] []))
    refine Go.st (fun _ => XS.iloadN X0.here C.hx rfl (hb C.hby d1_0) rfl) ?_
    show Go p e below s n0 _ _ _ (T0.setTop (mkF m 1 #[.val (.int x), .val (.int (0 : Int32)), .unset] [(.int (0 : Int32))]))
    refine Go.newP C X0 (aty := .byte) (cap := 0) (wd 4 rfl) d1_1 (by decide) (by decide) (by decide) (by decide) (by decide) (fun T101 h101 b101 g101 ge101 X101 E101 A101 => ?_)
    have K101 : Keep h0 h101 [] := (Keep.refl h0 []).ext E101
    have old_b101 : h0.size ≤ b101 := Nat.le_trans (Keep.refl h0 []).1 (Nat.le_of_eq g101)
    have A_b101 : AR Z h101 b101 .byte [] := A101
    show Go p e below s n0 _ _ _ (T101.setTop (mkF m 3 #[.val (.int x), .val (.int (0 : Int32)), .unset] [(.ref b101)]))
    refine Go.st (fun _ => XS.astoreN X101.here C.hx rfl (hb C.hby d1_3) rfl rfl (l' := #[.val (.int x), .val (.int (0 : Int32)), .val (.ref b101)]) rfl) ?_
    show Go p e below s n0 _ _ _ (T101.setTop (mkF m 4 #[.val (.int x), .val (.int (0 : Int32)), .val (.ref b101)] []))
    refine Go.st (fun _ => XS.iloadN X101.here C.hx rfl (hb C.hby d1_4) rfl) ?_
    show Go p e below s n0 _ _ _ (T101.setTop (mkF m 5 #[.val (.int x), .val (.int (0 : Int32)), .val (.ref b101)] [(.int (0 : Int32))]))
    refine Go.if_le C X101 (pc' := 13) d1_5 (by decide) (by decide) (fun _ => ?_) (fun hc => absurd hc (by decide))
    show Go p e below s n0 _ _ _ (T101.setTop (mkF m 13 #[.val (.int x), .val (.int (0 : Int32)), .val (.ref b101)] []))
    refine Go.st (fun _ => XS.iloadN X101.here C.hx rfl (hb C.hby d1_13) rfl) ?_
    show Go p e below s n0 _ _ _ (T101.setTop (mkF m 14 #[.val (.int x), .val (.int (0 : Int32)), .val (.ref b101)] [(.int (0 : Int32))]))
    refine Go.st (fun _ => XS.iconst X101.here C.hx rfl (hb C.hby d1_14)) ?_
    show Go p e below s n0 _ _ _ (T101.setTop (mkF m 15 #[.val (.int x), .val (.int (0 : Int32)), .val (.ref b101)] [(.int (1 : Int32)), (.int (0 : Int32))]))
    refine Go.icmp_le C X101 (pc' := 26) d1_15 (by decide) (by decide) (fun _ => ?_) (fun hc => absurd hc (by decide))
    show Go p e below s n0 _ _ _ (T101.setTop (mkF m 26 #[.val (.int x), .val (.int (0 : Int32)), .val (.ref b101)] []))
    refine Go.st (fun _ => XS.iloadN X101.here C.hx rfl (hb C.hby d1_26) rfl) ?_
    show Go p e below s n0 _ _ _ (T101.setTop (mkF m 27 #[.val (.int x), .val (.int (0 : Int32)), .val (.ref b101)] [(.int (0 : Int32))]))
    refine Go.st (fun _ => XS.iconst X101.here C.hx rfl (hb C.hby d1_27)) ?_
    show Go p e below s n0 _ _ _ (T101.setTop (mkF m 28 #[.val (.int x), .val (.int (0 : Int32)), .val (.ref b101)] [(.int (2 : Int32)), (.int (0 : Int32))]))
    refine Go.icmp_le C X101 (pc' := 39) d1_28 (by decide) (by decide) (fun _ => ?_) (fun hc => absurd hc (by decide))
    show Go p e below s n0 _ _ _ (T101.setTop (mkF m 39 #[.val (.int x), .val (.int (0 : Int32)), .val (.ref b101)] []))
    refine Go.st (fun _ => XS.iloadN X101.here C.hx rfl (hb C.hby d1_39) rfl) ?_
    show Go p e below s n0 _ _ _ (T101.setTop (mkF m 40 #[.val (.int x), .val (.int (0 : Int32)), .val (.ref b101)] [(.int (0 : Int32))]))
    refine Go.st (fun _ => XS.iconst X101.here C.hx rfl (hb C.hby d1_40)) ?_
    show Go p e below s n0 _ _ _ (T101.setTop (mkF m 41 #[.val (.int x), .val (.int (0 : Int32)), .val (.ref b101)] [(.int (3 : Int32)), (.int (0 : Int32))]))
    refine Go.icmp_le C X101 (pc' := 52) d1_41 (by decide) (by decide) (fun _ => ?_) (fun hc => absurd hc (by decide))
    show Go p e below s n0 _ _ _ (T101.setTop (mkF m 52 #[.val (.int x), .val (.int (0 : Int32)), .val (.ref b101)] []))
    refine Go.st (fun _ => XS.aloadN X101.here C.hx rfl (hb C.hby d1_52) rfl rfl) ?_
    show Go p e below s n0 _ _ _ (T101.setTop (mkF m 53 #[.val (.int x), .val (.int (0 : Int32)), .val (.ref b101)] [(.ref b101)]))
    exact Go.retA C X101 rfl rfl d1_53 ⟨_, rfl, A_b101, K101⟩ (by decide) (by decide)
  · show Go p e below s n0 _ _ _ (T0.setTop (mkF m 0 #[.val (.int x), .val (.int (1 : Int32)), .unset] []))
    refine Go.st (fun _ => XS.iloadN X0.here C.hx rfl (hb C.hby d1_0) rfl) ?_
    show Go p e below s n0 _ _ _ (T0.setTop (mkF m 1 #[.val (.int x), .val (.int (1 : Int32)), .unset] [(.int (1 : Int32))]))
    refine Go.newP C X0 (aty := .byte) (cap := 1) (wd 4 rfl) d1_1 (by decide) (by decide) (by decide) (by decide) (by decide) (fun T106 h106 b106 g106 ge106 X106 E106 A106 => ?_)
    have K106 : Keep h0 h106 [] := (Keep.refl h0 []).ext E106
    have old_b106 : h0.size ≤ b106 := Nat.le_trans (Keep.refl h0 []).1 (Nat.le_of_eq g106)
    have A_b106 : AR Z h106 b106 .byte [(.int (0 : Int32))] := A106
    show Go p e below s n0 _ _ _ (T106.setTop (mkF m 3 #[.val (.int x), .val (.int (1 : Int32)), .unset] [(.ref b106)]))
    refine Go.st (fun _ => XS.astoreN X106.here C.hx rfl (hb C.hby d1_3) rfl rfl (l' := #[.val (.int x), .val (.int (1 : Int32)), .val (.ref b106)]) rfl) ?_
    show Go p e below s n0 _ _ _ (T106.setTop (mkF m 4 #[.val (.int x), .val (.int (1 : Int32)), .val (.ref b106)] []))
    refine Go.st (fun _ => XS.iloadN X106.here C.hx rfl (hb C.hby d1_4) rfl) ?_
    show Go p e below s n0 _ _ _ (T106.setTop (mkF m 5 #[.val (.int x), .val (.int (1 : Int32)), .val (.ref b106)] [(.int (1 : Int32))]))
    refine Go.if_le C X106 (pc' := 13) d1_5 (by decide) (by decide) (fun hc => absurd hc (by decide)) (fun _ => ?_)
    show Go p e below s n0 _ _ _ (T106.setTop (mkF m 8 #[.val (.int x), .val (.int (1 : Int32)), .val (.ref b106)] []))
    refine Go.st (fun _ => XS.aloadN X106.here C.hx rfl (hb C.hby d1_8) rfl rfl) ?_
    show Go p e below s n0 _ _ _ (T106.setTop (mkF m 9 #[.val (.int x), .val (.int (1 : Int32)), .val (.ref b106)] [(.ref b106)]))
    refine Go.st (fun _ => XS.iconst X106.here C.hx rfl (hb C.hby d1_9)) ?_
    show Go p e below s n0 _ _ _ (T106.setTop (mkF m 10 #[.val (.int x), .val (.int (1 : Int32)), .val (.ref b106)] [(.int (0 : Int32)), (.ref b106)]))
    refine Go.st (fun _ => XS.iloadN X106.here C.hx rfl (hb C.hby d1_10) rfl) ?_
    show Go p e below s n0 _ _ _ (T106.setTop (mkF m 11 #[.val (.int x), .val (.int (1 : Int32)), .val (.ref b106)] [(.int x), (.int (0 : Int32)), (.ref b106)]))
    refine Go.st (fun _ => XS.i2b X106.here C.hx rfl (hb C.hby d1_11) rfl) ?_
    show Go p e below s n0 _ _ _ (T106.setTop (mkF m 12 #[.val (.int x), .val (.int (1 : Int32)), .val (.ref b106)] [(.int x.toInt8.toInt32), (.int (0 : Int32)), (.ref b106)]))
    refine Go.bastore C X106 A_b106 (by decide) (Nat.le_of_ble_eq_true rfl) ge106 d1_12 (fun T108 h108 X108 W108 A108 => ?_)
    have A_108 : AR Z h108 b106 .byte [(.int (nar .byte x.toInt8.toInt32))] := A108
    have K108 : Keep h0 h108 [] := K106.wr W108 (Or.inr old_b106)
    show Go p e below s n0 _ _ _ (T108.setTop (mkF m 13 #[.val (.int x), .val (.int (1 : Int32)), .val (.ref b106)] []))
    refine Go.st (fun _ => XS.iloadN X108.here C.hx rfl (hb C.hby d1_13) rfl) ?_
    show Go p e below s n0 _ _ _ (T108.setTop (mkF m 14 #[.val (.int x), .val (.int (1 : Int32)), .val (.ref b106)] [(.int (1 : Int32))]))
    refine Go.st (fun _ => XS.iconst X108.here C.hx rfl (hb C.hby d1_14)) ?_
    show Go p e below s n0 _ _ _ (T108.setTop (mkF m 15 #[.val (.int x), .val (.int (1 : Int32)), .val (.ref b106)] [(.int (1 : Int32)), (.int (1 : Int32))]))
    refine Go.icmp_le C X108 (pc' := 26) d1_15 (by decide) (by decide) (fun _ => ?_) (fun hc => absurd hc (by decide))
    show Go p e below s n0 _ _ _ (T108.setTop (mkF m 26 #[.val (.int x), .val (.int (1 : Int32)), .val (.ref b106)] []))
    refine Go.st (fun _ => XS.iloadN X108.here C.hx rfl (hb C.hby d1_26) rfl) ?_
    show Go p e below s n0 _ _ _ (T108.setTop (mkF m 27 #[.val (.int x), .val (.int (1 : Int32)), .val (.ref b106)] [(.int (1 : Int32))]))
    refine Go.st (fun _ => XS.iconst X108.here C.hx rfl (hb C.hby d1_27)) ?_
    show Go p e below s n0 _ _ _ (T108.setTop (mkF m 28 #[.val (.int x), .val (.int (1 : Int32)), .val (.ref b106)] [(.int (2 : Int32)), (.int (1 : Int32))]))
    refine Go.icmp_le C X108 (pc' := 39) d1_28 (by decide) (by decide) (fun _ => ?_) (fun hc => absurd hc (by decide))
    show Go p e below s n0 _ _ _ (T108.setTop (mkF m 39 #[.val (.int x), .val (.int (1 : Int32)), .val (.ref b106)] []))
    refine Go.st (fun _ => XS.iloadN X108.here C.hx rfl (hb C.hby d1_39) rfl) ?_
    show Go p e below s n0 _ _ _ (T108.setTop (mkF m 40 #[.val (.int x), .val (.int (1 : Int32)), .val (.ref b106)] [(.int (1 : Int32))]))
    refine Go.st (fun _ => XS.iconst X108.here C.hx rfl (hb C.hby d1_40)) ?_
    show Go p e below s n0 _ _ _ (T108.setTop (mkF m 41 #[.val (.int x), .val (.int (1 : Int32)), .val (.ref b106)] [(.int (3 : Int32)), (.int (1 : Int32))]))
    refine Go.icmp_le C X108 (pc' := 52) d1_41 (by decide) (by decide) (fun _ => ?_) (fun hc => absurd hc (by decide))
    show Go p e below s n0 _ _ _ (T108.setTop (mkF m 52 #[.val (.int x), .val (.int (1 : Int32)), .val (.ref b106)] []))
    refine Go.st (fun _ => XS.aloadN X108.here C.hx rfl (hb C.hby d1_52) rfl rfl) ?_
    show Go p e below s n0 _ _ _ (T108.setTop (mkF m 53 #[.val (.int x), .val (.int (1 : Int32)), .val (.ref b106)] [(.ref b106)]))
    exact Go.retA C X108 rfl rfl d1_53 ⟨_, rfl, A_108, K108⟩ (by decide) (by decide)
  · show Go p e below s n0 _ _ _ (T0.setTop (mkF m 0 #[.val (.int x), .val (.int (2 : Int32)), .unset] []))
    refine Go.st (fun _ => XS.iloadN X0.here C.hx rfl (hb C.hby d1_0) rfl) ?_
    show Go p e below s n0 _ _ _ (T0.setTop (mkF m 1 #[.val (.int x), .val (.int (2 : Int32)), .unset] [(.int (2 : Int32))]))
    refine Go.newP C X0 (aty := .byte) (cap := 2) (wd 4 rfl) d1_1 (by decide) (by decide) (by decide) (by decide) (by decide) (fun T112 h112 b112 g112 ge112 X112 E112 A112 => ?_)
    have K112 : Keep h0 h112 [] := (Keep.refl h0 []).ext E112
    have old_b112 : h0.size ≤ b112 := Nat.le_trans (Keep.refl h0 []).1 (Nat.le_of_eq g112)
    have A_b112 : AR Z h112 b112 .byte [(.int (0 : Int32)), (.int (0 : Int32))] := A112
    show Go p e below s n0 _ _ _ (T112.setTop (mkF m 3 #[.val (.int x), .val (.int (2 : Int32)), .unset] [(.ref b112)]))
    refine Go.st (fun _ => XS.astoreN X112.here C.hx rfl (hb C.hby d1_3) rfl rfl (l' := #[.val (.int x), .val (.int (2 : Int32)), .val (.ref b112)]) rfl) ?_
    show Go p e below s n0 _ _ _ (T112.setTop (mkF m 4 #[.val (.int x), .val (.int (2 : Int32)), .val (.ref b112)] []))
    refine Go.st (fun _ => XS.iloadN X112.here C.hx rfl (hb C.hby d1_4) rfl) ?_
    show Go p e below s n0 _ _ _ (T112.setTop (mkF m 5 #[.val (.int x), .val (.int (2 : Int32)), .val (.ref b112)] [(.int (2 : Int32))]))
    refine Go.if_le C X112 (pc' := 13) d1_5 (by decide) (by decide) (fun hc => absurd hc (by decide)) (fun _ => ?_)
    show Go p e below s n0 _ _ _ (T112.setTop (mkF m 8 #[.val (.int x), .val (.int (2 : Int32)), .val (.ref b112)] []))
    refine Go.st (fun _ => XS.aloadN X112.here C.hx rfl (hb C.hby d1_8) rfl rfl) ?_
    show Go p e below s n0 _ _ _ (T112.setTop (mkF m 9 #[.val (.int x), .val (.int (2 : Int32)), .val (.ref b112)] [(.ref b112)]))
    refine Go.st (fun _ => XS.iconst X112.here C.hx rfl (hb C.hby d1_9)) ?_
    show Go p e below s n0 _ _ _ (T112.setTop (mkF m 10 #[.val (.int x), .val (.int (2 : Int32)), .val (.ref b112)] [(.int (0 : Int32)), (.ref b112)]))
    refine Go.st (fun _ => XS.iloadN X112.here C.hx rfl (hb C.hby d1_10) rfl) ?_
    show Go p e below s n0 _ _ _ (T112.setTop (mkF m 11 #[.val (.int x), .val (.int (2 : Int32)), .val (.ref b112)] [(.int x), (.int (0 : Int32)), (.ref b112)]))
    refine Go.st (fun _ => XS.i2b X112.here C.hx rfl (hb C.hby d1_11) rfl) ?_
    show Go p e below s n0 _ _ _ (T112.setTop (mkF m 12 #[.val (.int x), .val (.int (2 : Int32)), .val (.ref b112)] [(.int x.toInt8.toInt32), (.int (0 : Int32)), (.ref b112)]))
    refine Go.bastore C X112 A_b112 (by decide) (Nat.le_of_ble_eq_true rfl) ge112 d1_12 (fun T114 h114 X114 W114 A114 => ?_)
    have A_114 : AR Z h114 b112 .byte [(.int (nar .byte x.toInt8.toInt32)), (.int (0 : Int32))] := A114
    have K114 : Keep h0 h114 [] := K112.wr W114 (Or.inr old_b112)
    show Go p e below s n0 _ _ _ (T114.setTop (mkF m 13 #[.val (.int x), .val (.int (2 : Int32)), .val (.ref b112)] []))
    refine Go.st (fun _ => XS.iloadN X114.here C.hx rfl (hb C.hby d1_13) rfl) ?_
    show Go p e below s n0 _ _ _ (T114.setTop (mkF m 14 #[.val (.int x), .val (.int (2 : Int32)), .val (.ref b112)] [(.int (2 : Int32))]))
    refine Go.st (fun _ => XS.iconst X114.here C.hx rfl (hb C.hby d1_14)) ?_
    show Go p e below s n0 _ _ _ (T114.setTop (mkF m 15 #[.val (.int x), .val (.int (2 : Int32)), .val (.ref b112)] [(.int (1 : Int32)), (.int (2 : Int32))]))
    refine Go.icmp_le C X114 (pc' := 26) d1_15 (by decide) (by decide) (fun hc => absurd hc (by decide)) (fun _ => ?_)
    show Go p e below s n0 _ _ _ (T114.setTop (mkF m 18 #[.val (.int x), .val (.int (2 : Int32)), .val (.ref b112)] []))
    refine Go.st (fun _ => XS.aloadN X114.here C.hx rfl (hb C.hby d1_18) rfl rfl) ?_
    show Go p e below s n0 _ _ _ (T114.setTop (mkF m 19 #[.val (.int x), .val (.int (2 : Int32)), .val (.ref b112)] [(.ref b112)]))
    refine Go.st (fun _ => XS.iconst X114.here C.hx rfl (hb C.hby d1_19)) ?_
    show Go p e below s n0 _ _ _ (T114.setTop (mkF m 20 #[.val (.int x), .val (.int (2 : Int32)), .val (.ref b112)] [(.int (1 : Int32)), (.ref b112)]))
    refine Go.st (fun _ => XS.iloadN X114.here C.hx rfl (hb C.hby d1_20) rfl) ?_
    show Go p e below s n0 _ _ _ (T114.setTop (mkF m 21 #[.val (.int x), .val (.int (2 : Int32)), .val (.ref b112)] [(.int x), (.int (1 : Int32)), (.ref b112)]))
    refine Go.st (fun _ => XS.bipush X114.here C.hx rfl (hb C.hby d1_21)) ?_
    show Go p e below s n0 _ _ _ (T114.setTop (mkF m 23 #[.val (.int x), .val (.int (2 : Int32)), .val (.ref b112)] [(.int (8 : Int32)), (.int x), (.int (1 : Int32)), (.ref b112)]))
    refine Go.st (fun _ => XS.ishr X114.here C.hx rfl (hb C.hby d1_23) rfl) ?_
    show Go p e below s n0 _ _ _ (T114.setTop (mkF m 24 #[.val (.int x), .val (.int (2 : Int32)), .val (.ref b112)] [(.int (x >>> ((8 : Int32) &&& 31))), (.int (1 : Int32)), (.ref b112)]))
    refine Go.st (fun _ => XS.i2b X114.here C.hx rfl (hb C.hby d1_24) rfl) ?_
    show Go p e below s n0 _ _ _ (T114.setTop (mkF m 25 #[.val (.int x), .val (.int (2 : Int32)), .val (.ref b112)] [(.int (x >>> ((8 : Int32) &&& 31)).toInt8.toInt32), (.int (1 : Int32)), (.ref b112)]))
    refine Go.bastore C X114 A_114 (by decide) (Nat.le_of_ble_eq_true rfl) ge112 d1_25 (fun T116 h116 X116 W116 A116 => ?_)
    have A_116 : AR Z h116 b112 .byte [(.int (nar .byte x.toInt8.toInt32)), (.int (nar .byte (x >>> ((8 : Int32) &&& 31)).toInt8.toInt32))] := A116
    have K116 : Keep h0 h116 [] := K114.wr W116 (Or.inr old_b112)
    show Go p e below s n0 _ _ _ (T116.setTop (mkF m 26 #[.val (.int x), .val (.int (2 : Int32)), .val (.ref b112)] []))
    refine Go.st (fun _ => XS.iloadN X116.here C.hx rfl (hb C.hby d1_26) rfl) ?_
    show Go p e below s n0 _ _ _ (T116.setTop (mkF m 27 #[.val (.int x), .val (.int (2 : Int32)), .val (.ref b112)] [(.int (2 : Int32))]))
    refine Go.st (fun _ => XS.iconst X116.here C.hx rfl (hb C.hby d1_27)) ?_
    show Go p e below s n0 _ _ _ (T116.setTop (mkF m 28 #[.val (.int x), .val (.int (2 : Int32)), .val (.ref b112)] [(.int (2 : Int32)), (.int (2 : Int32))]))
    refine Go.icmp_le C X116 (pc' := 39) d1_28 (by decide) (by decide) (fun _ => ?_) (fun hc => absurd hc (by decide))
    show Go p e below s n0 _ _ _ (T116.setTop (mkF m 39 #[.val (.int x), .val (.int (2 : Int32)), .val (.ref b112)] []))
    refine Go.st (fun _ => XS.iloadN X116.here C.hx rfl (hb C.hby d1_39) rfl) ?_
    show Go p e below s n0 _ _ _ (T116.setTop (mkF m 40 #[.val (.int x), .val (.int (2 : Int32)), .val (.ref b112)] [(.int (2 : Int32))]))
    refine Go.st (fun _ => XS.iconst X116.here C.hx rfl (hb C.hby d1_40)) ?_
    show Go p e below s n0 _ _ _ (T116.setTop (mkF m 41 #[.val (.int x), .val (.int (2 : Int32)), .val (.ref b112)] [(.int (3 : Int32)), (.int (2 : Int32))]))
    refine Go.icmp_le C X116 (pc' := 52) d1_41 (by decide) (by decide) (fun _ => ?_) (fun hc => absurd hc (by decide))
    show Go p e below s n0 _ _ _ (T116.setTop (mkF m 52 #[.val (.int x), .val (.int (2 : Int32)), .val (.ref b112)] []))
    refine Go.st (fun _ => XS.aloadN X116.here C.hx rfl (hb C.hby d1_52) rfl rfl) ?_
    show Go p e below s n0 _ _ _ (T116.setTop (mkF m 53 #[.val (.int x), .val (.int (2 : Int32)), .val (.ref b112)] [(.ref b112)]))
    exact Go.retA C X116 rfl rfl d1_53 ⟨_, rfl, A_116, K116⟩ (by decide) (by decide)
  · show Go p e below s n0 _ _ _ (T0.setTop (mkF m 0 #[.val (.int x), .val (.int (3 : Int32)), .unset] []))
    refine Go.st (fun _ => XS.iloadN X0.here C.hx rfl (hb C.hby d1_0) rfl) ?_
    show Go p e below s n0 _ _ _ (T0.setTop (mkF m 1 #[.val (.int x), .val (.int (3 : Int32)), .unset] [(.int (3 : Int32))]))
    refine Go.newP C X0 (aty := .byte) (cap := 3) (wd 4 rfl) d1_1 (by decide) (by decide) (by decide) (by decide) (by decide) (fun T119 h119 b119 g119 ge119 X119 E119 A119 => ?_)
    have K119 : Keep h0 h119 [] := (Keep.refl h0 []).ext E119
    have old_b119 : h0.size ≤ b119 := Nat.le_trans (Keep.refl h0 []).1 (Nat.le_of_eq g119)
    have A_b119 : AR Z h119 b119 .byte [(.int (0 : Int32)), (.int (0 : Int32)), (.int (0 : Int32))] := A119
    show Go p e below s n0 _ _ _ (T119.setTop (mkF m 3 #[.val (.int x), .val (.int (3 : Int32)), .unset] [(.ref b119)]))
    refine Go.st (fun _ => XS.astoreN X119.here C.hx rfl (hb C.hby d1_3) rfl rfl (l' := #[.val (.int x), .val (.int (3 : Int32)), .val (.ref b119)]) rfl) ?_
    show Go p e below s n0 _ _ _ (T119.setTop (mkF m 4 #[.val (.int x), .val (.int (3 : Int32)), .val (.ref b119)] []))
    refine Go.st (fun _ => XS.iloadN X119.here C.hx rfl (hb C.hby d1_4) rfl) ?_
    show Go p e below s n0 _ _ _ (T119.setTop (mkF m 5 #[.val (.int x), .val (.int (3 : Int32)), .val (.ref b119)] [(.int (3 : Int32))]))
    refine Go.if_le C X119 (pc' := 13) d1_5 (by decide) (by decide) (fun hc => absurd hc (by decide)) (fun _ => ?_)
    show Go p e below s n0 _ _ _ (T119.setTop (mkF m 8 #[.val (.int x), .val (.int (3 : Int32)), .val (.ref b119)] []))
    refine Go.st (fun _ => XS.aloadN X119.here C.hx rfl (hb C.hby d1_8) rfl rfl) ?_
    show Go p e below s n0 _ _ _ (T119.setTop (mkF m 9 #[.val (.int x), .val (.int (3 : Int32)), .val (.ref b119)] [(.ref b119)]))
    refine Go.st (fun _ => XS.iconst X119.here C.hx rfl (hb C.hby d1_9)) ?_
    show Go p e below s n0 _ _ _ (T119.setTop (mkF m 10 #[.val (.int x), .val (.int (3 : Int32)), .val (.ref b119)] [(.int (0 : Int32)), (.ref b119)]))
    refine Go.st (fun _ => XS.iloadN X119.here C.hx rfl (hb C.hby d1_10) rfl) ?_
    show Go p e below s n0 _ _ _ (T119.setTop (mkF m 11 #[.val (.int x), .val (.int (3 : Int32)), .val (.ref b119)] [(.int x), (.int (0 : Int32)), (.ref b119)]))
    refine Go.st (fun _ => XS.i2b X119.here C.hx rfl (hb C.hby d1_11) rfl) ?_
    show Go p e below s n0 _ _ _ (T119.setTop (mkF m 12 #[.val (.int x), .val (.int (3 : Int32)), .val (.ref b119)] [(.int x.toInt8.toInt32), (.int (0 : Int32)), (.ref b119)]))
    refine Go.bastore C X119 A_b119 (by decide) (Nat.le_of_ble_eq_true rfl) ge119 d1_12 (fun T121 h121 X121 W121 A121 => ?_)
    have A_121 : AR Z h121 b119 .byte [(.int (nar .byte x.toInt8.toInt32)), (.int (0 : Int32)), (.int (0 : Int32))] := A121
    have K121 : Keep h0 h121 [] := K119.wr W121 (Or.inr old_b119)
    show Go p e below s n0 _ _ _ (T121.setTop (mkF m 13 #[.val (.int x), .val (.int (3 : Int32)), .val (.ref b119)] []))
    refine Go.st (fun _ => XS.iloadN X121.here C.hx rfl (hb C.hby d1_13) rfl) ?_
    show Go p e below s n0 _ _ _ (T121.setTop (mkF m 14 #[.val (.int x), .val (.int (3 : Int32)), .val (.ref b119)] [(.int (3 : Int32))]))
    refine Go.st (fun _ => XS.iconst X121.here C.hx rfl (hb C.hby d1_14)) ?_
    show Go p e below s n0 _ _ _ (T121.setTop (mkF m 15 #[.val (.int x), .val (.int (3 : Int32)), .val (.ref b119)] [(.int (1 : Int32)), (.int (3 : Int32))]))
    refine Go.icmp_le C X121 (pc' := 26) d1_15 (by decide) (by decide) (fun hc => absurd hc (by decide)) (fun _ => ?_)
    show Go p e below s n0 _ _ _ (T121.setTop (mkF m 18 #[.val (.int x), .val (.int (3 : Int32)), .val (.ref b119)] []))
    refine Go.st (fun _ => XS.aloadN X121.here C.hx rfl (hb C.hby d1_18) rfl rfl) ?_
    show Go p e below s n0 _ _ _ (T121.setTop (mkF m 19 #[.val (.int x), .val (.int (3 : Int32)), .val (.ref b119)] [(.ref b119)]))
    refine Go.st (fun _ => XS.iconst X121.here C.hx rfl (hb C.hby d1_19)) ?_
    show Go p e below s n0 _ _ _ (T121.setTop (mkF m 20 #[.val (.int x), .val (.int (3 : Int32)), .val (.ref b119)] [(.int (1 : Int32)), (.ref b119)]))
    refine Go.st (fun _ => XS.iloadN X121.here C.hx rfl (hb C.hby d1_20) rfl) ?_
    show Go p e below s n0 _ _ _ (T121.setTop (mkF m 21 #[.val (.int x), .val (.int (3 : Int32)), .val (.ref b119)] [(.int x), (.int (1 : Int32)), (.ref b119)]))
    refine Go.st (fun _ => XS.bipush X121.here C.hx rfl (hb C.hby d1_21)) ?_
    show Go p e below s n0 _ _ _ (T121.setTop (mkF m 23 #[.val (.int x), .val (.int (3 : Int32)), .val (.ref b119)] [(.int (8 : Int32)), (.int x), (.int (1 : Int32)), (.ref b119)]))
    refine Go.st (fun _ => XS.ishr X121.here C.hx rfl (hb C.hby d1_23) rfl) ?_
    show Go p e below s n0 _ _ _ (T121.setTop (mkF m 24 #[.val (.int x), .val (.int (3 : Int32)), .val (.ref b119)] [(.int (x >>> ((8 : Int32) &&& 31))), (.int (1 : Int32)), (.ref b119)]))
    refine Go.st (fun _ => XS.i2b X121.here C.hx rfl (hb C.hby d1_24) rfl) ?_
    show Go p e below s n0 _ _ _ (T121.setTop (mkF m 25 #[.val (.int x), .val (.int (3 : Int32)), .val (.ref b119)] [(.int (x >>> ((8 : Int32) &&& 31)).toInt8.toInt32), (.int (1 : Int32)), (.ref b119)]))
    refine Go.bastore C X121 A_121 (by decide) (Nat.le_of_ble_eq_true rfl) ge119 d1_25 (fun T123 h123 X123 W123 A123 => ?_)
    have A_123 : AR Z h123 b119 .byte [(.int (nar .byte x.toInt8.toInt32)), (.int (nar .byte (x >>> ((8 : Int32) &&& 31)).toInt8.toInt32)), (.int (0 : Int32))] := A123
    have K123 : Keep h0 h123 [] := K121.wr W123 (Or.inr old_b119)
    show Go p e below s n0 _ _ _ (T123.setTop (mkF m 26 #[.val (.int x), .val (.int (3 : Int32)), .val (.ref b119)] []))
    refine Go.st (fun _ => XS.iloadN X123.here C.hx rfl (hb C.hby d1_26) rfl) ?_
    show Go p e below s n0 _ _ _ (T123.setTop (mkF m 27 #[.val (.int x), .val (.int (3 : Int32)), .val (.ref b119)] [(.int (3 : Int32))]))
    refine Go.st (fun _ => XS.iconst X123.here C.hx rfl (hb C.hby d1_27)) ?_
    show Go p e below s n0 _ _ _ (T123.setTop (mkF m 28 #[.val (.int x), .val (.int (3 : Int32)), .val (.ref b119)] [(.int (2 : Int32)), (.int (3 : Int32))]))
    refine Go.icmp_le C X123 (pc' := 39) d1_28 (by decide) (by decide) (fun hc => absurd hc (by decide)) (fun _ => ?_)
    show Go p e below s n0 _ _ _ (T123.setTop (mkF m 31 #[.val (.int x), .val (.int (3 : Int32)), .val (.ref b119)] []))
    refine Go.st (fun _ => XS.aloadN X123.here C.hx rfl (hb C.hby d1_31) rfl rfl) ?_
    show Go p e below s n0 _ _ _ (T123.setTop (mkF m 32 #[.val (.int x), .val (.int (3 : Int32)), .val (.ref b119)] [(.ref b119)]))
    refine Go.st (fun _ => XS.iconst X123.here C.hx rfl (hb C.hby d1_32)) ?_
    show Go p e below s n0 _ _ _ (T123.setTop (mkF m 33 #[.val (.int x), .val (.int (3 : Int32)), .val (.ref b119)] [(.int (2 : Int32)), (.ref b119)]))
    refine Go.st (fun _ => XS.iloadN X123.here C.hx rfl (hb C.hby d1_33) rfl) ?_
    show Go p e below s n0 _ _ _ (T123.setTop (mkF m 34 #[.val (.int x), .val (.int (3 : Int32)), .val (.ref b119)] [(.int x), (.int (2 : Int32)), (.ref b119)]))
    refine Go.st (fun _ => XS.bipush X123.here C.hx rfl (hb C.hby d1_34)) ?_
    show Go p e below s n0 _ _ _ (T123.setTop (mkF m 36 #[.val (.int x), .val (.int (3 : Int32)), .val (.ref b119)] [(.int (16 : Int32)), (.int x), (.int (2 : Int32)), (.ref b119)]))
    refine Go.st (fun _ => XS.ishr X123.here C.hx rfl (hb C.hby d1_36) rfl) ?_
    show Go p e below s n0 _ _ _ (T123.setTop (mkF m 37 #[.val (.int x), .val (.int (3 : Int32)), .val (.ref b119)] [(.int (x >>> ((16 : Int32) &&& 31))), (.int (2 : Int32)), (.ref b119)]))
    refine Go.st (fun _ => XS.i2b X123.here C.hx rfl (hb C.hby d1_37) rfl) ?_
    show Go p e below s n0 _ _ _ (T123.setTop (mkF m 38 #[.val (.int x), .val (.int (3 : Int32)), .val (.ref b119)] [(.int (x >>> ((16 : Int32) &&& 31)).toInt8.toInt32), (.int (2 : Int32)), (.ref b119)]))
    refine Go.bastore C X123 A_123 (by decide) (Nat.le_of_ble_eq_true rfl) ge119 d1_38 (fun T125 h125 X125 W125 A125 => ?_)
    have A_125 : AR Z h125 b119 .byte [(.int (nar .byte x.toInt8.toInt32)), (.int (nar .byte (x >>> ((8 : Int32) &&& 31)).toInt8.toInt32)), (.int (nar .byte (x >>> ((16 : Int32) &&& 31)).toInt8.toInt32))] := A125
    have K125 : Keep h0 h125 [] := K123.wr W125 (Or.inr old_b119)
    show Go p e below s n0 _ _ _ (T125.setTop (mkF m 39 #[.val (.int x), .val (.int (3 : Int32)), .val (.ref b119)] []))
    refine Go.st (fun _ => XS.iloadN X125.here C.hx rfl (hb C.hby d1_39) rfl) ?_
    show Go p e below s n0 _ _ _ (T125.setTop (mkF m 40 #[.val (.int x), .val (.int (3 : Int32)), .val (.ref b119)] [(.int (3 : Int32))]))
    refine Go.st (fun _ => XS.iconst X125.here C.hx rfl (hb C.hby d1_40)) ?_
    show Go p e below s n0 _ _ _ (T125.setTop (mkF m 41 #[.val (.int x), .val (.int (3 : Int32)), .val (.ref b119)] [(.int (3 : Int32)), (.int (3 : Int32))]))
    refine Go.icmp_le C X125 (pc' := 52) d1_41 (by decide) (by decide) (fun _ => ?_) (fun hc => absurd hc (by decide))
    show Go p e below s n0 _ _ _ (T125.setTop (mkF m 52 #[.val (.int x), .val (.int (3 : Int32)), .val (.ref b119)] []))
    refine Go.st (fun _ => XS.aloadN X125.here C.hx rfl (hb C.hby d1_52) rfl rfl) ?_
    show Go p e below s n0 _ _ _ (T125.setTop (mkF m 53 #[.val (.int x), .val (.int (3 : Int32)), .val (.ref b119)] [(.ref b119)]))
    exact Go.retA C X125 rfl rfl d1_53 ⟨_, rfl, A_125, K125⟩ (by decide) (by decide)
  · show Go p e below s n0 _ _ _ (T0.setTop (mkF m 0 #[.val (.int x), .val (.int (4 : Int32)), .unset] []))
    refine Go.st (fun _ => XS.iloadN X0.here C.hx rfl (hb C.hby d1_0) rfl) ?_
    show Go p e below s n0 _ _ _ (T0.setTop (mkF m 1 #[.val (.int x), .val (.int (4 : Int32)), .unset] [(.int (4 : Int32))]))
    refine Go.newP C X0 (aty := .byte) (cap := 4) (wd 4 rfl) d1_1 (by decide) (by decide) (by decide) (by decide) (by decide) (fun T127 h127 b127 g127 ge127 X127 E127 A127 => ?_)
    have K127 : Keep h0 h127 [] := (Keep.refl h0 []).ext E127
    have old_b127 : h0.size ≤ b127 := Nat.le_trans (Keep.refl h0 []).1 (Nat.le_of_eq g127)
    have A_b127 : AR Z h127 b127 .byte [(.int (0 : Int32)), (.int (0 : Int32)), (.int (0 : Int32)), (.int (0 : Int32))] := A127
    show Go p e below s n0 _ _ _ (T127.setTop (mkF m 3 #[.val (.int x), .val (.int (4 : Int32)), .unset] [(.ref b127)]))
    refine Go.st (fun _ => XS.astoreN X127.here C.hx rfl (hb C.hby d1_3) rfl rfl (l' := #[.val (.int x), .val (.int (4 : Int32)), .val (.ref b127)]) rfl) ?_
    show Go p e below s n0 _ _ _ (T127.setTop (mkF m 4 #[.val (.int x), .val (.int (4 : Int32)), .val (.ref b127)] []))
    refine Go.st (fun _ => XS.iloadN X127.here C.hx rfl (hb C.hby d1_4) rfl) ?_
    show Go p e below s n0 _ _ _ (T127.setTop (mkF m 5 #[.val (.int x), .val (.int (4 : Int32)), .val (.ref b127)] [(.int (4 : Int32))]))
    refine Go.if_le C X127 (pc' := 13) d1_5 (by decide) (by decide) (fun hc => absurd hc (by decide)) (fun _ => ?_)
    show Go p e below s n0 _ _ _ (T127.setTop (mkF m 8 #[.val (.int x), .val (.int (4 : Int32)), .val (.ref b127)] []))
    refine Go.st (fun _ => XS.aloadN X127.here C.hx rfl (hb C.hby d1_8) rfl rfl) ?_
    show Go p e below s n0 _ _ _ (T127.setTop (mkF m 9 #[.val (.int x), .val (.int (4 : Int32)), .val (.ref b127)] [(.ref b127)]))
    refine Go.st (fun _ => XS.iconst X127.here C.hx rfl (hb C.hby d1_9)) ?_
    show Go p e below s n0 _ _ _ (T127.setTop (mkF m 10 #[.val (.int x), .val (.int (4 : Int32)), .val (.ref b127)] [(.int (0 : Int32)), (.ref b127)]))
    refine Go.st (fun _ => XS.iloadN X127.here C.hx rfl (hb C.hby d1_10) rfl) ?_
    show Go p e below s n0 _ _ _ (T127.setTop (mkF m 11 #[.val (.int x), .val (.int (4 : Int32)), .val (.ref b127)] [(.int x), (.int (0 : Int32)), (.ref b127)]))
    refine Go.st (fun _ => XS.i2b X127.here C.hx rfl (hb C.hby d1_11) rfl) ?_
    show Go p e below s n0 _ _ _ (T127.setTop (mkF m 12 #[.val (.int x), .val (.int (4 : Int32)), .val (.ref b127)] [(.int x.toInt8.toInt32), (.int (0 : Int32)), (.ref b127)]))
    refine Go.bastore C X127 A_b127 (by decide) (Nat.le_of_ble_eq_true rfl) ge127 d1_12 (fun T129 h129 X129 W129 A129 => ?_)
    have A_129 : AR Z h129 b127 .byte [(.int (nar .byte x.toInt8.toInt32)), (.int (0 : Int32)), (.int (0 : Int32)), (.int (0 : Int32))] := A129
    have K129 : Keep h0 h129 [] := K127.wr W129 (Or.inr old_b127)
    show Go p e below s n0 _ _ _ (T129.setTop (mkF m 13 #[.val (.int x), .val (.int (4 : Int32)), .val (.ref b127)] []))
    refine Go.st (fun _ => XS.iloadN X129.here C.hx rfl (hb C.hby d1_13) rfl) ?_
    show Go p e below s n0 _ _ _ (T129.setTop (mkF m 14 #[.val (.int x), .val (.int (4 : Int32)), .val (.ref b127)] [(.int (4 : Int32))]))
    refine Go.st (fun _ => XS.iconst X129.here C.hx rfl (hb C.hby d1_14)) ?_
    show Go p e below s n0 _ _ _ (T129.setTop (mkF m 15 #[.val (.int x), .val (.int (4 : Int32)), .val (.ref b127)] [(.int (1 : Int32)), (.int (4 : Int32))]))
    refine Go.icmp_le C X129 (pc' := 26) d1_15 (by decide) (by decide) (fun hc => absurd hc (by decide)) (fun _ => ?_)
    show Go p e below s n0 _ _ _ (T129.setTop (mkF m 18 #[.val (.int x), .val (.int (4 : Int32)), .val (.ref b127)] []))
    refine Go.st (fun _ => XS.aloadN X129.here C.hx rfl (hb C.hby d1_18) rfl rfl) ?_
    show Go p e below s n0 _ _ _ (T129.setTop (mkF m 19 #[.val (.int x), .val (.int (4 : Int32)), .val (.ref b127)] [(.ref b127)]))
    refine Go.st (fun _ => XS.iconst X129.here C.hx rfl (hb C.hby d1_19)) ?_
    show Go p e below s n0 _ _ _ (T129.setTop (mkF m 20 #[.val (.int x), .val (.int (4 : Int32)), .val (.ref b127)] [(.int (1 : Int32)), (.ref b127)]))
    refine Go.st (fun _ => XS.iloadN X129.here C.hx rfl (hb C.hby d1_20) rfl) ?_
    show Go p e below s n0 _ _ _ (T129.setTop (mkF m 21 #[.val (.int x), .val (.int (4 : Int32)), .val (.ref b127)] [(.int x), (.int (1 : Int32)), (.ref b127)]))
    refine Go.st (fun _ => XS.bipush X129.here C.hx rfl (hb C.hby d1_21)) ?_
    show Go p e below s n0 _ _ _ (T129.setTop (mkF m 23 #[.val (.int x), .val (.int (4 : Int32)), .val (.ref b127)] [(.int (8 : Int32)), (.int x), (.int (1 : Int32)), (.ref b127)]))
    refine Go.st (fun _ => XS.ishr X129.here C.hx rfl (hb C.hby d1_23) rfl) ?_
    show Go p e below s n0 _ _ _ (T129.setTop (mkF m 24 #[.val (.int x), .val (.int (4 : Int32)), .val (.ref b127)] [(.int (x >>> ((8 : Int32) &&& 31))), (.int (1 : Int32)), (.ref b127)]))
    refine Go.st (fun _ => XS.i2b X129.here C.hx rfl (hb C.hby d1_24) rfl) ?_
    show Go p e below s n0 _ _ _ (T129.setTop (mkF m 25 #[.val (.int x), .val (.int (4 : Int32)), .val (.ref b127)] [(.int (x >>> ((8 : Int32) &&& 31)).toInt8.toInt32), (.int (1 : Int32)), (.ref b127)]))
    refine Go.bastore C X129 A_129 (by decide) (Nat.le_of_ble_eq_true rfl) ge127 d1_25 (fun T131 h131 X131 W131 A131 => ?_)
    have A_131 : AR Z h131 b127 .byte [(.int (nar .byte x.toInt8.toInt32)), (.int (nar .byte (x >>> ((8 : Int32) &&& 31)).toInt8.toInt32)), (.int (0 : Int32)), (.int (0 : Int32))] := A131
    have K131 : Keep h0 h131 [] := K129.wr W131 (Or.inr old_b127)
    show Go p e below s n0 _ _ _ (T131.setTop (mkF m 26 #[.val (.int x), .val (.int (4 : Int32)), .val (.ref b127)] []))
    refine Go.st (fun _ => XS.iloadN X131.here C.hx rfl (hb C.hby d1_26) rfl) ?_
    show Go p e below s n0 _ _ _ (T131.setTop (mkF m 27 #[.val (.int x), .val (.int (4 : Int32)), .val (.ref b127)] [(.int (4 : Int32))]))
    refine Go.st (fun _ => XS.iconst X131.here C.hx rfl (hb C.hby d1_27)) ?_
    show Go p e below s n0 _ _ _ (T131.setTop (mkF m 28 #[.val (.int x), .val (.int (4 : Int32)), .val (.ref b127)] [(.int (2 : Int32)), (.int (4 : Int32))]))
    refine Go.icmp_le C X131 (pc' := 39) d1_28 (by decide) (by decide) (fun hc => absurd hc (by decide)) (fun _ => ?_)
    show Go p e below s n0 _ _ _ (T131.setTop (mkF m 31 #[.val (.int x), .val (.int (4 : Int32)), .val (.ref b127)] []))
    refine Go.st (fun _ => XS.aloadN X131.here C.hx rfl (hb C.hby d1_31) rfl rfl) ?_
    show Go p e below s n0 _ _ _ (T131.setTop (mkF m 32 #[.val (.int x), .val (.int (4 : Int32)), .val (.ref b127)] [(.ref b127)]))
    refine Go.st (fun _ => XS.iconst X131.here C.hx rfl (hb C.hby d1_32)) ?_
    show Go p e below s n0 _ _ _ (T131.setTop (mkF m 33 #[.val (.int x), .val (.int (4 : Int32)), .val (.ref b127)] [(.int (2 : Int32)), (.ref b127)]))
    refine Go.st (fun _ => XS.iloadN X131.here C.hx rfl (hb C.hby d1_33) rfl) ?_
    show Go p e below s n0 _ _ _ (T131.setTop (mkF m 34 #[.val (.int x), .val (.int (4 : Int32)), .val (.ref b127)] [(.int x), (.int (2 : Int32)), (.ref b127)]))
    refine Go.st (fun _ => XS.bipush X131.here C.hx rfl (hb C.hby d1_34)) ?_
    show Go p e below s n0 _ _ _ (T131.setTop (mkF m 36 #[.val (.int x), .val (.int (4 : Int32)), .val (.ref b127)] [(.int (16 : Int32)), (.int x), (.int (2 : Int32)), (.ref b127)]))
    refine Go.st (fun _ => XS.ishr X131.here C.hx rfl (hb C.hby d1_36) rfl) ?_
    show Go p e below s n0 _ _ _ (T131.setTop (mkF m 37 #[.val (.int x), .val (.int (4 : Int32)), .val (.ref b127)] [(.int (x >>> ((16 : Int32) &&& 31))), (.int (2 : Int32)), (.ref b127)]))
    refine Go.st (fun _ => XS.i2b X131.here C.hx rfl (hb C.hby d1_37) rfl) ?_
    show Go p e below s n0 _ _ _ (T131.setTop (mkF m 38 #[.val (.int x), .val (.int (4 : Int32)), .val (.ref b127)] [(.int (x >>> ((16 : Int32) &&& 31)).toInt8.toInt32), (.int (2 : Int32)), (.ref b127)]))
    refine Go.bastore C X131 A_131 (by decide) (Nat.le_of_ble_eq_true rfl) ge127 d1_38 (fun T133 h133 X133 W133 A133 => ?_)
    have A_133 : AR Z h133 b127 .byte [(.int (nar .byte x.toInt8.toInt32)), (.int (nar .byte (x >>> ((8 : Int32) &&& 31)).toInt8.toInt32)), (.int (nar .byte (x >>> ((16 : Int32) &&& 31)).toInt8.toInt32)), (.int (0 : Int32))] := A133
    have K133 : Keep h0 h133 [] := K131.wr W133 (Or.inr old_b127)
    show Go p e below s n0 _ _ _ (T133.setTop (mkF m 39 #[.val (.int x), .val (.int (4 : Int32)), .val (.ref b127)] []))
    refine Go.st (fun _ => XS.iloadN X133.here C.hx rfl (hb C.hby d1_39) rfl) ?_
    show Go p e below s n0 _ _ _ (T133.setTop (mkF m 40 #[.val (.int x), .val (.int (4 : Int32)), .val (.ref b127)] [(.int (4 : Int32))]))
    refine Go.st (fun _ => XS.iconst X133.here C.hx rfl (hb C.hby d1_40)) ?_
    show Go p e below s n0 _ _ _ (T133.setTop (mkF m 41 #[.val (.int x), .val (.int (4 : Int32)), .val (.ref b127)] [(.int (3 : Int32)), (.int (4 : Int32))]))
    refine Go.icmp_le C X133 (pc' := 52) d1_41 (by decide) (by decide) (fun hc => absurd hc (by decide)) (fun _ => ?_)
    show Go p e below s n0 _ _ _ (T133.setTop (mkF m 44 #[.val (.int x), .val (.int (4 : Int32)), .val (.ref b127)] []))
    refine Go.st (fun _ => XS.aloadN X133.here C.hx rfl (hb C.hby d1_44) rfl rfl) ?_
    show Go p e below s n0 _ _ _ (T133.setTop (mkF m 45 #[.val (.int x), .val (.int (4 : Int32)), .val (.ref b127)] [(.ref b127)]))
    refine Go.st (fun _ => XS.iconst X133.here C.hx rfl (hb C.hby d1_45)) ?_
    show Go p e below s n0 _ _ _ (T133.setTop (mkF m 46 #[.val (.int x), .val (.int (4 : Int32)), .val (.ref b127)] [(.int (3 : Int32)), (.ref b127)]))
    refine Go.st (fun _ => XS.iloadN X133.here C.hx rfl (hb C.hby d1_46) rfl) ?_
    show Go p e below s n0 _ _ _ (T133.setTop (mkF m 47 #[.val (.int x), .val (.int (4 : Int32)), .val (.ref b127)] [(.int x), (.int (3 : Int32)), (.ref b127)]))
    refine Go.st (fun _ => XS.bipush X133.here C.hx rfl (hb C.hby d1_47)) ?_
    show Go p e below s n0 _ _ _ (T133.setTop (mkF m 49 #[.val (.int x), .val (.int (4 : Int32)), .val (.ref b127)] [(.int (24 : Int32)), (.int x), (.int (3 : Int32)), (.ref b127)]))
    refine Go.st (fun _ => XS.ishr X133.here C.hx rfl (hb C.hby d1_49) rfl) ?_
    show Go p e below s n0 _ _ _ (T133.setTop (mkF m 50 #[.val (.int x), .val (.int (4 : Int32)), .val (.ref b127)] [(.int (x >>> ((24 : Int32) &&& 31))), (.int (3 : Int32)), (.ref b127)]))
    refine Go.st (fun _ => XS.i2b X133.here C.hx rfl (hb C.hby d1_50) rfl) ?_
    show Go p e below s n0 _ _ _ (T133.setTop (mkF m 51 #[.val (.int x), .val (.int (4 : Int32)), .val (.ref b127)] [(.int (x >>> ((24 : Int32) &&& 31)).toInt8.toInt32), (.int (3 : Int32)), (.ref b127)]))
    refine Go.bastore C X133 A_133 (by decide) (Nat.le_of_ble_eq_true rfl) ge127 d1_51 (fun T135 h135 X135 W135 A135 => ?_)
    have A_135 : AR Z h135 b127 .byte [(.int (nar .byte x.toInt8.toInt32)), (.int (nar .byte (x >>> ((8 : Int32) &&& 31)).toInt8.toInt32)), (.int (nar .byte (x >>> ((16 : Int32) &&& 31)).toInt8.toInt32)), (.int (nar .byte (x >>> ((24 : Int32) &&& 31)).toInt8.toInt32))] := A135
    have K135 : Keep h0 h135 [] := K133.wr W135 (Or.inr old_b127)
    show Go p e below s n0 _ _ _ (T135.setTop (mkF m 52 #[.val (.int x), .val (.int (4 : Int32)), .val (.ref b127)] []))
    refine Go.st (fun _ => XS.aloadN X135.here C.hx rfl (hb C.hby d1_52) rfl rfl) ?_
    show Go p e below s n0 _ _ _ (T135.setTop (mkF m 53 #[.val (.int x), .val (.int (4 : Int32)), .val (.ref b127)] [(.ref b127)]))
    exact Go.retA C X135 rfl rfl d1_53 ⟨_, rfl, A_135, K135⟩ (by decide) (by decide)
theorem d3_0 : decode method_3_code 0 = .ok (.iload_n 0, 1) := by decide +kernel
theorem d3_1 : decode method_3_code 1 = .ok (.ifCond .ne 5, 3) := by decide +kernel
theorem d3_4 : decode method_3_code 4 = .ok (.iconst 0, 1) := by decide +kernel
theorem d3_5 : decode method_3_code 5 = .ok (.ireturn, 1) := by decide +kernel
theorem d3_6 : decode method_3_code 6 = .ok (.iload_n 0, 1) := by decide +kernel
theorem d3_7 : decode method_3_code 7 = .ok (.iconst 1, 1) := by decide +kernel
theorem d3_8 : decode method_3_code 8 = .ok (.if_icmp .ne 7, 3) := by decide +kernel
theorem d3_11 : decode method_3_code 11 = .ok (.sipush 255, 3) := by decide +kernel
theorem d3_14 : decode method_3_code 14 = .ok (.ireturn, 1) := by decide +kernel
theorem d3_15 : decode method_3_code 15 = .ok (.iload_n 0, 1) := by decide +kernel
theorem d3_16 : decode method_3_code 16 = .ok (.iconst 2, 1) := by decide +kernel
theorem d3_17 : decode method_3_code 17 = .ok (.if_icmp .ne 6, 3) := by decide +kernel
theorem d3_20 : decode method_3_code 20 = .ok (.ldc 7, 2) := by decide +kernel
theorem d3_22 : decode method_3_code 22 = .ok (.ireturn, 1) := by decide +kernel
theorem d3_23 : decode method_3_code 23 = .ok (.iload_n 0, 1) := by decide +kernel
theorem d3_24 : decode method_3_code 24 = .ok (.iconst 3, 1) := by decide +kernel
theorem d3_25 : decode method_3_code 25 = .ok (.if_icmp .ne 6, 3) := by decide +kernel
theorem d3_28 : decode method_3_code 28 = .ok (.ldc 8, 2) := by decide +kernel
theorem d3_30 : decode method_3_code 30 = .ok (.ireturn, 1) := by decide +kernel
theorem d3_31 : decode method_3_code 31 = .ok (.iconst (-1), 1) := by decide +kernel
theorem d3_32 : decode method_3_code 32 = .ok (.ireturn, 1) := by decide +kernel
theorem pf_3 : plainFor (⟨"com/example/strict_attest/strictattest/intel/CollateralBodyEqualUnderMaskPinLaw", "low", "(I)I"⟩ : MethodName) = true := plainFor_of_name (by first | (simp [plainName, overriddenIn]; done) | decide +kernel)
theorem pd_3 : parseMethodDescriptor "(I)I" = some ⟨[.int], some .int⟩ := by decide +kernel
set_option maxRecDepth 65536 in
set_option maxHeartbeats 40000000 in
theorem con_low (l : Launch) (Z : State) (a0 : Array Value) (hw : ∀ d ∈ tables_1, d.before a0 Z = true) (n0 : Nat) (h0 : Heap) (Z0 : n0 ≤ h0.size) (k : Int32)  :
    Con l Z (⟨"com/example/strict_attest/strictattest/intel/CollateralBodyEqualUnderMaskPinLaw", "low", "(I)I"⟩ : MethodName) method_3_code 1 (some .int) [] ({ frames := 0, cells := 0, slots := 0, locals := 0 } : Room) n0 #[(.int k)] h0 (fun v h => v = some (.int (lowF k)) ∧ h = h0) := by
  refine Con.mk pf_3 hw Z0 ?_
  intro p e s m below meth c T0 C X0
  have ef : entryFrame m #[(.int k)] 1 = mkF m 0 #[.val (.int k)] [] := by first | (simp [entryFrame, mkF, argsToLocals, Value.category]; done) | rfl
  rw [ef]
  show Go p e below s n0 _ _ _ (T0.setTop (mkF m 0 #[.val (.int k)] []))
  refine Go.st (fun _ => XS.iloadN X0.here C.hx rfl (hb C.hby d3_0) rfl) ?_
  show Go p e below s n0 _ _ _ (T0.setTop (mkF m 1 #[.val (.int k)] [(.int k)]))
  refine Go.if_ne C X0 (pc' := 6) d3_1 (by decide) (by decide) (fun hc1_136 => ?_) (fun hc1_136 => ?_)
  · show Go p e below s n0 _ _ _ (T0.setTop (mkF m 6 #[.val (.int k)] []))
    refine Go.st (fun _ => XS.iloadN X0.here C.hx rfl (hb C.hby d3_6) rfl) ?_
    show Go p e below s n0 _ _ _ (T0.setTop (mkF m 7 #[.val (.int k)] [(.int k)]))
    refine Go.st (fun _ => XS.iconst X0.here C.hx rfl (hb C.hby d3_7)) ?_
    show Go p e below s n0 _ _ _ (T0.setTop (mkF m 8 #[.val (.int k)] [(.int (1 : Int32)), (.int k)]))
    refine Go.icmp_ne C X0 (pc' := 15) d3_8 (by decide) (by decide) (fun hc8_137 => ?_) (fun hc8_137 => ?_)
    · show Go p e below s n0 _ _ _ (T0.setTop (mkF m 15 #[.val (.int k)] []))
      refine Go.st (fun _ => XS.iloadN X0.here C.hx rfl (hb C.hby d3_15) rfl) ?_
      show Go p e below s n0 _ _ _ (T0.setTop (mkF m 16 #[.val (.int k)] [(.int k)]))
      refine Go.st (fun _ => XS.iconst X0.here C.hx rfl (hb C.hby d3_16)) ?_
      show Go p e below s n0 _ _ _ (T0.setTop (mkF m 17 #[.val (.int k)] [(.int (2 : Int32)), (.int k)]))
      refine Go.icmp_ne C X0 (pc' := 23) d3_17 (by decide) (by decide) (fun hc17_138 => ?_) (fun hc17_138 => ?_)
      · show Go p e below s n0 _ _ _ (T0.setTop (mkF m 23 #[.val (.int k)] []))
        refine Go.st (fun _ => XS.iloadN X0.here C.hx rfl (hb C.hby d3_23) rfl) ?_
        show Go p e below s n0 _ _ _ (T0.setTop (mkF m 24 #[.val (.int k)] [(.int k)]))
        refine Go.st (fun _ => XS.iconst X0.here C.hx rfl (hb C.hby d3_24)) ?_
        show Go p e below s n0 _ _ _ (T0.setTop (mkF m 25 #[.val (.int k)] [(.int (3 : Int32)), (.int k)]))
        refine Go.icmp_ne C X0 (pc' := 31) d3_25 (by decide) (by decide) (fun hc25_139 => ?_) (fun hc25_139 => ?_)
        · show Go p e below s n0 _ _ _ (T0.setTop (mkF m 31 #[.val (.int k)] []))
          refine Go.st (fun _ => XS.iconst X0.here C.hx rfl (hb C.hby d3_31)) ?_
          show Go p e below s n0 _ _ _ (T0.setTop (mkF m 32 #[.val (.int k)] [(.int (-1 : Int32))]))
          exact Go.retI C X0 d3_32 ⟨by simp [lowF, hc1_136, hc8_137, hc17_138, hc25_139], rfl⟩ (by decide) (by decide)
        · show Go p e below s n0 _ _ _ (T0.setTop (mkF m 28 #[.val (.int k)] []))
          refine Go.ldcI C X0 (wd 12 rfl) d3_28 ?_
          show Go p e below s n0 _ _ _ (T0.setTop (mkF m 30 #[.val (.int k)] [(.int (16777215 : Int32))]))
          exact Go.retI C X0 d3_30 ⟨by simp [lowF, hc1_136, hc8_137, hc17_138, hc25_139], rfl⟩ (by decide) (by decide)
      · show Go p e below s n0 _ _ _ (T0.setTop (mkF m 20 #[.val (.int k)] []))
        refine Go.ldcI C X0 (wd 13 rfl) d3_20 ?_
        show Go p e below s n0 _ _ _ (T0.setTop (mkF m 22 #[.val (.int k)] [(.int (65535 : Int32))]))
        exact Go.retI C X0 d3_22 ⟨by simp [lowF, hc1_136, hc8_137, hc17_138], rfl⟩ (by decide) (by decide)
    · show Go p e below s n0 _ _ _ (T0.setTop (mkF m 11 #[.val (.int k)] []))
      refine Go.st (fun _ => XS.sipush X0.here C.hx rfl (hb C.hby d3_11)) ?_
      show Go p e below s n0 _ _ _ (T0.setTop (mkF m 14 #[.val (.int k)] [(.int (255 : Int32))]))
      exact Go.retI C X0 d3_14 ⟨by simp [lowF, hc1_136, hc8_137], rfl⟩ (by decide) (by decide)
  · show Go p e below s n0 _ _ _ (T0.setTop (mkF m 4 #[.val (.int k)] []))
    refine Go.st (fun _ => XS.iconst X0.here C.hx rfl (hb C.hby d3_4)) ?_
    show Go p e below s n0 _ _ _ (T0.setTop (mkF m 5 #[.val (.int k)] [(.int (0 : Int32))]))
    exact Go.retI C X0 d3_5 ⟨by simp [lowF, hc1_136], rfl⟩ (by decide) (by decide)
theorem d2_0 : decode prog_112_method_14_code 0 = .ok (.aload_n 0, 1) := by decide +kernel
theorem d2_1 : decode prog_112_method_14_code 1 = .ok (.arraylength, 1) := by decide +kernel
theorem d2_2 : decode prog_112_method_14_code 2 = .ok (.aload_n 1, 1) := by decide +kernel
theorem d2_3 : decode prog_112_method_14_code 3 = .ok (.arraylength, 1) := by decide +kernel
theorem d2_4 : decode prog_112_method_14_code 4 = .ok (.if_icmp .ne 14, 3) := by decide +kernel
theorem d2_7 : decode prog_112_method_14_code 7 = .ok (.aload_n 0, 1) := by decide +kernel
theorem d2_8 : decode prog_112_method_14_code 8 = .ok (.arraylength, 1) := by decide +kernel
theorem d2_9 : decode prog_112_method_14_code 9 = .ok (.aload_n 2, 1) := by decide +kernel
theorem d2_10 : decode prog_112_method_14_code 10 = .ok (.arraylength, 1) := by decide +kernel
theorem d2_11 : decode prog_112_method_14_code 11 = .ok (.if_icmp .ne 7, 3) := by decide +kernel
theorem d2_14 : decode prog_112_method_14_code 14 = .ok (.iconst 1, 1) := by decide +kernel
theorem d2_15 : decode prog_112_method_14_code 15 = .ok (.goto 4, 3) := by decide +kernel
theorem d2_18 : decode prog_112_method_14_code 18 = .ok (.iconst 0, 1) := by decide +kernel
theorem d2_19 : decode prog_112_method_14_code 19 = .ok (.istore_n 3, 1) := by decide +kernel
theorem d2_20 : decode prog_112_method_14_code 20 = .ok (.iconst 0, 1) := by decide +kernel
theorem d2_21 : decode prog_112_method_14_code 21 = .ok (.istore 4, 2) := by decide +kernel
theorem d2_23 : decode prog_112_method_14_code 23 = .ok (.iload 4, 2) := by decide +kernel
theorem d2_25 : decode prog_112_method_14_code 25 = .ok (.aload_n 2, 1) := by decide +kernel
theorem d2_26 : decode prog_112_method_14_code 26 = .ok (.arraylength, 1) := by decide +kernel
theorem d2_27 : decode prog_112_method_14_code 27 = .ok (.if_icmp .ge 40, 3) := by decide +kernel
theorem d2_30 : decode prog_112_method_14_code 30 = .ok (.iload_n 3, 1) := by decide +kernel
theorem d2_31 : decode prog_112_method_14_code 31 = .ok (.ifCond .eq 36, 3) := by decide +kernel
theorem d2_34 : decode prog_112_method_14_code 34 = .ok (.aload_n 0, 1) := by decide +kernel
theorem d2_35 : decode prog_112_method_14_code 35 = .ok (.iload 4, 2) := by decide +kernel
theorem d2_37 : decode prog_112_method_14_code 37 = .ok (.baload, 1) := by decide +kernel
theorem d2_38 : decode prog_112_method_14_code 38 = .ok (.aload_n 2, 1) := by decide +kernel
theorem d2_39 : decode prog_112_method_14_code 39 = .ok (.iload 4, 2) := by decide +kernel
theorem d2_41 : decode prog_112_method_14_code 41 = .ok (.baload, 1) := by decide +kernel
theorem d2_42 : decode prog_112_method_14_code 42 = .ok (.iand, 1) := by decide +kernel
theorem d2_43 : decode prog_112_method_14_code 43 = .ok (.aload_n 1, 1) := by decide +kernel
theorem d2_44 : decode prog_112_method_14_code 44 = .ok (.iload 4, 2) := by decide +kernel
theorem d2_46 : decode prog_112_method_14_code 46 = .ok (.baload, 1) := by decide +kernel
theorem d2_47 : decode prog_112_method_14_code 47 = .ok (.aload_n 2, 1) := by decide +kernel
theorem d2_48 : decode prog_112_method_14_code 48 = .ok (.iload 4, 2) := by decide +kernel
theorem d2_50 : decode prog_112_method_14_code 50 = .ok (.baload, 1) := by decide +kernel
theorem d2_51 : decode prog_112_method_14_code 51 = .ok (.iand, 1) := by decide +kernel
theorem d2_52 : decode prog_112_method_14_code 52 = .ok (.if_icmp .ne 7, 3) := by decide +kernel
theorem d2_55 : decode prog_112_method_14_code 55 = .ok (.iconst 1, 1) := by decide +kernel
theorem d2_56 : decode prog_112_method_14_code 56 = .ok (.goto 4, 3) := by decide +kernel
theorem d2_59 : decode prog_112_method_14_code 59 = .ok (.iconst 0, 1) := by decide +kernel
theorem d2_60 : decode prog_112_method_14_code 60 = .ok (.istore_n 3, 1) := by decide +kernel
theorem d2_61 : decode prog_112_method_14_code 61 = .ok (.iinc 4 1, 3) := by decide +kernel
theorem d2_64 : decode prog_112_method_14_code 64 = .ok (.goto (-41), 3) := by decide +kernel
theorem d2_67 : decode prog_112_method_14_code 67 = .ok (.iload_n 3, 1) := by decide +kernel
theorem d2_68 : decode prog_112_method_14_code 68 = .ok (.ireturn, 1) := by decide +kernel
theorem pf_2 : plainFor (⟨"com/example/strict_attest/strictattest/intel/CollateralBody", "equalUnderMask", "([B[B[B)Z"⟩ : MethodName) = true := plainFor_of_name (by first | (simp [plainName, overriddenIn]; done) | decide +kernel)
theorem pd_2 : parseMethodDescriptor "([B[B[B)Z" = some ⟨[(.array .byte), (.array .byte), (.array .byte)], some .boolean⟩ := by decide +kernel
theorem len32 {a b : Nat} (ha : a ≤ 4) (hb : b ≤ 4) (q : a.toInt32 = b.toInt32) : a = b := by
  have : ∀ a b : Fin 5, (a.1.toInt32 = b.1.toInt32) → a.1 = b.1 := by decide +kernel
  exact this ⟨a, by omega⟩ ⟨b, by omega⟩ q
theorem ll0 (xs : List Int32) (h : xs.length = 0) : xs = [] := List.length_eq_zero_iff.mp h
theorem ll1 (xs : List Int32) (h : xs.length = 1) : ∃ a, xs = [a] := by
  cases xs with
  | nil => cases h
  | cons a t => exact ⟨a, by rw [ll0 t (by simpa using h)]⟩
theorem ll2 (xs : List Int32) (h : xs.length = 2) : ∃ a b, xs = [a, b] := by
  cases xs with
  | nil => cases h
  | cons a t => obtain ⟨b, rfl⟩ := ll1 t (by simpa using h); exact ⟨a, b, rfl⟩
theorem ll3 (xs : List Int32) (h : xs.length = 3) : ∃ a b c, xs = [a, b, c] := by
  cases xs with
  | nil => cases h
  | cons a t => obtain ⟨b, c, rfl⟩ := ll2 t (by simpa using h); exact ⟨a, b, c, rfl⟩
theorem ll4 (xs : List Int32) (h : xs.length = 4) : ∃ a b c d, xs = [a, b, c, d] := by
  cases xs with
  | nil => cases h
  | cons a t => obtain ⟨b, c, d, rfl⟩ := ll3 t (by simpa using h); exact ⟨a, b, c, d, rfl⟩
set_option maxRecDepth 65536 in
set_option maxHeartbeats 40000000 in
theorem con_eqm (l : Launch) (Z : State) (a0 : Array Value) (hw : ∀ d ∈ tables_1, d.before a0 Z = true) (n0 : Nat) (h0 : Heap) (Z0 : n0 ≤ h0.size) (a1 a2 a3 : Addr) (xs ys zs : List Int32) (A1 : AR Z h0 a1 .byte (xs.map Value.int)) (A2 : AR Z h0 a2 .byte (ys.map Value.int)) (A3 : AR Z h0 a3 .byte (zs.map Value.int)) (l1 : xs.length ≤ 4) (l2 : ys.length ≤ 4) (l3 : zs.length ≤ 4) :
    Con l Z (⟨"com/example/strict_attest/strictattest/intel/CollateralBody", "equalUnderMask", "([B[B[B)Z"⟩ : MethodName) prog_112_method_14_code 5 (some .boolean) [] ({ frames := 0, cells := 0, slots := 0, locals := 0 } : Room) n0 #[(.ref a1), (.ref a2), (.ref a3)] h0 (fun v h => v = some (.int (eqmF xs ys zs)) ∧ h = h0) := by
  refine Con.mk pf_2 hw Z0 ?_
  intro p e s m below meth c T0 C X0
  have ef : entryFrame m #[(.ref a1), (.ref a2), (.ref a3)] 5 = mkF m 0 #[.val (.ref a1), .val (.ref a2), .val (.ref a3), .unset, .unset] [] := by first | (simp [entryFrame, mkF, argsToLocals, Value.category]; done) | rfl
  rw [ef]
  by_cases hq : xs.length = ys.length ∧ xs.length = zs.length
  · obtain ⟨q1, q2⟩ := hq
    have hk : zs.length = 0 ∨ zs.length = 1 ∨ zs.length = 2 ∨ zs.length = 3 ∨ zs.length = 4 := by omega
    rcases hk with hk | hk | hk | hk | hk
    · have e_xs := ll0 xs (by omega)
      have e_ys := ll0 ys (by omega)
      have e_zs := ll0 zs hk
      subst e_xs e_ys e_zs
      show Go p e below s n0 _ _ _ (T0.setTop (mkF m 0 #[.val (.ref a1), .val (.ref a2), .val (.ref a3), .unset, .unset] []))
      refine Go.st (fun _ => XS.aloadN X0.here C.hx rfl (hb C.hby d2_0) rfl rfl) ?_
      show Go p e below s n0 _ _ _ (T0.setTop (mkF m 1 #[.val (.ref a1), .val (.ref a2), .val (.ref a3), .unset, .unset] [(.ref a1)]))
      refine Go.alen C X0 A1 (z := (0 : Int32)) rfl d2_1 ?_
      show Go p e below s n0 _ _ _ (T0.setTop (mkF m 2 #[.val (.ref a1), .val (.ref a2), .val (.ref a3), .unset, .unset] [(.int (0 : Int32))]))
      refine Go.st (fun _ => XS.aloadN X0.here C.hx rfl (hb C.hby d2_2) rfl rfl) ?_
      show Go p e below s n0 _ _ _ (T0.setTop (mkF m 3 #[.val (.ref a1), .val (.ref a2), .val (.ref a3), .unset, .unset] [(.ref a2), (.int (0 : Int32))]))
      refine Go.alen C X0 A2 (z := (0 : Int32)) rfl d2_3 ?_
      show Go p e below s n0 _ _ _ (T0.setTop (mkF m 4 #[.val (.ref a1), .val (.ref a2), .val (.ref a3), .unset, .unset] [(.int (0 : Int32)), (.int (0 : Int32))]))
      refine Go.icmp_ne C X0 (pc' := 18) d2_4 (by decide) (by decide) (fun hc => absurd hc (by decide)) (fun _ => ?_)
      show Go p e below s n0 _ _ _ (T0.setTop (mkF m 7 #[.val (.ref a1), .val (.ref a2), .val (.ref a3), .unset, .unset] []))
      refine Go.st (fun _ => XS.aloadN X0.here C.hx rfl (hb C.hby d2_7) rfl rfl) ?_
      show Go p e below s n0 _ _ _ (T0.setTop (mkF m 8 #[.val (.ref a1), .val (.ref a2), .val (.ref a3), .unset, .unset] [(.ref a1)]))
      refine Go.alen C X0 A1 (z := (0 : Int32)) rfl d2_8 ?_
      show Go p e below s n0 _ _ _ (T0.setTop (mkF m 9 #[.val (.ref a1), .val (.ref a2), .val (.ref a3), .unset, .unset] [(.int (0 : Int32))]))
      refine Go.st (fun _ => XS.aloadN X0.here C.hx rfl (hb C.hby d2_9) rfl rfl) ?_
      show Go p e below s n0 _ _ _ (T0.setTop (mkF m 10 #[.val (.ref a1), .val (.ref a2), .val (.ref a3), .unset, .unset] [(.ref a3), (.int (0 : Int32))]))
      refine Go.alen C X0 A3 (z := (0 : Int32)) rfl d2_10 ?_
      show Go p e below s n0 _ _ _ (T0.setTop (mkF m 11 #[.val (.ref a1), .val (.ref a2), .val (.ref a3), .unset, .unset] [(.int (0 : Int32)), (.int (0 : Int32))]))
      refine Go.icmp_ne C X0 (pc' := 18) d2_11 (by decide) (by decide) (fun hc => absurd hc (by decide)) (fun _ => ?_)
      show Go p e below s n0 _ _ _ (T0.setTop (mkF m 14 #[.val (.ref a1), .val (.ref a2), .val (.ref a3), .unset, .unset] []))
      refine Go.st (fun _ => XS.iconst X0.here C.hx rfl (hb C.hby d2_14)) ?_
      show Go p e below s n0 _ _ _ (T0.setTop (mkF m 15 #[.val (.ref a1), .val (.ref a2), .val (.ref a3), .unset, .unset] [(.int (1 : Int32))]))
      refine Go.st (fun _ => XS.goto X0.here C.hx rfl (pc0 := 15) (pc' := 19) rfl (hb C.hby d2_15) (by decide) (by decide)) ?_
      show Go p e below s n0 _ _ _ (T0.setTop (mkF m 19 #[.val (.ref a1), .val (.ref a2), .val (.ref a3), .unset, .unset] [(.int (1 : Int32))]))
      refine Go.st (fun _ => XS.istoreN X0.here C.hx rfl (hb C.hby d2_19) rfl (l' := #[.val (.ref a1), .val (.ref a2), .val (.ref a3), .val (.int (1 : Int32)), .unset]) rfl) ?_
      show Go p e below s n0 _ _ _ (T0.setTop (mkF m 20 #[.val (.ref a1), .val (.ref a2), .val (.ref a3), .val (.int (1 : Int32)), .unset] []))
      refine Go.st (fun _ => XS.iconst X0.here C.hx rfl (hb C.hby d2_20)) ?_
      show Go p e below s n0 _ _ _ (T0.setTop (mkF m 21 #[.val (.ref a1), .val (.ref a2), .val (.ref a3), .val (.int (1 : Int32)), .unset] [(.int (0 : Int32))]))
      refine Go.st (fun _ => XS.istore X0.here C.hx rfl (hb C.hby d2_21) rfl (l' := #[.val (.ref a1), .val (.ref a2), .val (.ref a3), .val (.int (1 : Int32)), .val (.int (0 : Int32))]) rfl) ?_
      show Go p e below s n0 _ _ _ (T0.setTop (mkF m 23 #[.val (.ref a1), .val (.ref a2), .val (.ref a3), .val (.int (1 : Int32)), .val (.int (0 : Int32))] []))
      refine Go.st (fun _ => XS.iload X0.here C.hx rfl (hb C.hby d2_23) rfl) ?_
      show Go p e below s n0 _ _ _ (T0.setTop (mkF m 25 #[.val (.ref a1), .val (.ref a2), .val (.ref a3), .val (.int (1 : Int32)), .val (.int (0 : Int32))] [(.int (0 : Int32))]))
      refine Go.st (fun _ => XS.aloadN X0.here C.hx rfl (hb C.hby d2_25) rfl rfl) ?_
      show Go p e below s n0 _ _ _ (T0.setTop (mkF m 26 #[.val (.ref a1), .val (.ref a2), .val (.ref a3), .val (.int (1 : Int32)), .val (.int (0 : Int32))] [(.ref a3), (.int (0 : Int32))]))
      refine Go.alen C X0 A3 (z := (0 : Int32)) rfl d2_26 ?_
      show Go p e below s n0 _ _ _ (T0.setTop (mkF m 27 #[.val (.ref a1), .val (.ref a2), .val (.ref a3), .val (.int (1 : Int32)), .val (.int (0 : Int32))] [(.int (0 : Int32)), (.int (0 : Int32))]))
      refine Go.icmp_ge C X0 (pc' := 67) d2_27 (by decide) (by decide) (fun _ => ?_) (fun hc => absurd hc (by decide))
      show Go p e below s n0 _ _ _ (T0.setTop (mkF m 67 #[.val (.ref a1), .val (.ref a2), .val (.ref a3), .val (.int (1 : Int32)), .val (.int (0 : Int32))] []))
      refine Go.st (fun _ => XS.iloadN X0.here C.hx rfl (hb C.hby d2_67) rfl) ?_
      show Go p e below s n0 _ _ _ (T0.setTop (mkF m 68 #[.val (.ref a1), .val (.ref a2), .val (.ref a3), .val (.int (1 : Int32)), .val (.int (0 : Int32))] [(.int (1 : Int32))]))
      exact Go.retZ C X0 (by decide) d2_68 ⟨by simp [eqmF, eqL], rfl⟩ (by decide) (by decide)
    · obtain ⟨x0, e_xs⟩ := ll1 xs (by omega)
      obtain ⟨y0, e_ys⟩ := ll1 ys (by omega)
      obtain ⟨z0, e_zs⟩ := ll1 zs hk
      subst e_xs e_ys e_zs
      show Go p e below s n0 _ _ _ (T0.setTop (mkF m 0 #[.val (.ref a1), .val (.ref a2), .val (.ref a3), .unset, .unset] []))
      refine Go.st (fun _ => XS.aloadN X0.here C.hx rfl (hb C.hby d2_0) rfl rfl) ?_
      show Go p e below s n0 _ _ _ (T0.setTop (mkF m 1 #[.val (.ref a1), .val (.ref a2), .val (.ref a3), .unset, .unset] [(.ref a1)]))
      refine Go.alen C X0 A1 (z := (1 : Int32)) rfl d2_1 ?_
      show Go p e below s n0 _ _ _ (T0.setTop (mkF m 2 #[.val (.ref a1), .val (.ref a2), .val (.ref a3), .unset, .unset] [(.int (1 : Int32))]))
      refine Go.st (fun _ => XS.aloadN X0.here C.hx rfl (hb C.hby d2_2) rfl rfl) ?_
      show Go p e below s n0 _ _ _ (T0.setTop (mkF m 3 #[.val (.ref a1), .val (.ref a2), .val (.ref a3), .unset, .unset] [(.ref a2), (.int (1 : Int32))]))
      refine Go.alen C X0 A2 (z := (1 : Int32)) rfl d2_3 ?_
      show Go p e below s n0 _ _ _ (T0.setTop (mkF m 4 #[.val (.ref a1), .val (.ref a2), .val (.ref a3), .unset, .unset] [(.int (1 : Int32)), (.int (1 : Int32))]))
      refine Go.icmp_ne C X0 (pc' := 18) d2_4 (by decide) (by decide) (fun hc => absurd hc (by decide)) (fun _ => ?_)
      show Go p e below s n0 _ _ _ (T0.setTop (mkF m 7 #[.val (.ref a1), .val (.ref a2), .val (.ref a3), .unset, .unset] []))
      refine Go.st (fun _ => XS.aloadN X0.here C.hx rfl (hb C.hby d2_7) rfl rfl) ?_
      show Go p e below s n0 _ _ _ (T0.setTop (mkF m 8 #[.val (.ref a1), .val (.ref a2), .val (.ref a3), .unset, .unset] [(.ref a1)]))
      refine Go.alen C X0 A1 (z := (1 : Int32)) rfl d2_8 ?_
      show Go p e below s n0 _ _ _ (T0.setTop (mkF m 9 #[.val (.ref a1), .val (.ref a2), .val (.ref a3), .unset, .unset] [(.int (1 : Int32))]))
      refine Go.st (fun _ => XS.aloadN X0.here C.hx rfl (hb C.hby d2_9) rfl rfl) ?_
      show Go p e below s n0 _ _ _ (T0.setTop (mkF m 10 #[.val (.ref a1), .val (.ref a2), .val (.ref a3), .unset, .unset] [(.ref a3), (.int (1 : Int32))]))
      refine Go.alen C X0 A3 (z := (1 : Int32)) rfl d2_10 ?_
      show Go p e below s n0 _ _ _ (T0.setTop (mkF m 11 #[.val (.ref a1), .val (.ref a2), .val (.ref a3), .unset, .unset] [(.int (1 : Int32)), (.int (1 : Int32))]))
      refine Go.icmp_ne C X0 (pc' := 18) d2_11 (by decide) (by decide) (fun hc => absurd hc (by decide)) (fun _ => ?_)
      show Go p e below s n0 _ _ _ (T0.setTop (mkF m 14 #[.val (.ref a1), .val (.ref a2), .val (.ref a3), .unset, .unset] []))
      refine Go.st (fun _ => XS.iconst X0.here C.hx rfl (hb C.hby d2_14)) ?_
      show Go p e below s n0 _ _ _ (T0.setTop (mkF m 15 #[.val (.ref a1), .val (.ref a2), .val (.ref a3), .unset, .unset] [(.int (1 : Int32))]))
      refine Go.st (fun _ => XS.goto X0.here C.hx rfl (pc0 := 15) (pc' := 19) rfl (hb C.hby d2_15) (by decide) (by decide)) ?_
      show Go p e below s n0 _ _ _ (T0.setTop (mkF m 19 #[.val (.ref a1), .val (.ref a2), .val (.ref a3), .unset, .unset] [(.int (1 : Int32))]))
      refine Go.st (fun _ => XS.istoreN X0.here C.hx rfl (hb C.hby d2_19) rfl (l' := #[.val (.ref a1), .val (.ref a2), .val (.ref a3), .val (.int (1 : Int32)), .unset]) rfl) ?_
      show Go p e below s n0 _ _ _ (T0.setTop (mkF m 20 #[.val (.ref a1), .val (.ref a2), .val (.ref a3), .val (.int (1 : Int32)), .unset] []))
      refine Go.st (fun _ => XS.iconst X0.here C.hx rfl (hb C.hby d2_20)) ?_
      show Go p e below s n0 _ _ _ (T0.setTop (mkF m 21 #[.val (.ref a1), .val (.ref a2), .val (.ref a3), .val (.int (1 : Int32)), .unset] [(.int (0 : Int32))]))
      refine Go.st (fun _ => XS.istore X0.here C.hx rfl (hb C.hby d2_21) rfl (l' := #[.val (.ref a1), .val (.ref a2), .val (.ref a3), .val (.int (1 : Int32)), .val (.int (0 : Int32))]) rfl) ?_
      show Go p e below s n0 _ _ _ (T0.setTop (mkF m 23 #[.val (.ref a1), .val (.ref a2), .val (.ref a3), .val (.int (1 : Int32)), .val (.int (0 : Int32))] []))
      refine Go.st (fun _ => XS.iload X0.here C.hx rfl (hb C.hby d2_23) rfl) ?_
      show Go p e below s n0 _ _ _ (T0.setTop (mkF m 25 #[.val (.ref a1), .val (.ref a2), .val (.ref a3), .val (.int (1 : Int32)), .val (.int (0 : Int32))] [(.int (0 : Int32))]))
      refine Go.st (fun _ => XS.aloadN X0.here C.hx rfl (hb C.hby d2_25) rfl rfl) ?_
      show Go p e below s n0 _ _ _ (T0.setTop (mkF m 26 #[.val (.ref a1), .val (.ref a2), .val (.ref a3), .val (.int (1 : Int32)), .val (.int (0 : Int32))] [(.ref a3), (.int (0 : Int32))]))
      refine Go.alen C X0 A3 (z := (1 : Int32)) rfl d2_26 ?_
      show Go p e below s n0 _ _ _ (T0.setTop (mkF m 27 #[.val (.ref a1), .val (.ref a2), .val (.ref a3), .val (.int (1 : Int32)), .val (.int (0 : Int32))] [(.int (1 : Int32)), (.int (0 : Int32))]))
      refine Go.icmp_ge C X0 (pc' := 67) d2_27 (by decide) (by decide) (fun hc => absurd hc (by decide)) (fun _ => ?_)
      show Go p e below s n0 _ _ _ (T0.setTop (mkF m 30 #[.val (.ref a1), .val (.ref a2), .val (.ref a3), .val (.int (1 : Int32)), .val (.int (0 : Int32))] []))
      refine Go.st (fun _ => XS.iloadN X0.here C.hx rfl (hb C.hby d2_30) rfl) ?_
      show Go p e below s n0 _ _ _ (T0.setTop (mkF m 31 #[.val (.ref a1), .val (.ref a2), .val (.ref a3), .val (.int (1 : Int32)), .val (.int (0 : Int32))] [(.int (1 : Int32))]))
      refine Go.if_eq C X0 (pc' := 67) d2_31 (by decide) (by decide) (fun hc => absurd hc (by decide)) (fun _ => ?_)
      show Go p e below s n0 _ _ _ (T0.setTop (mkF m 34 #[.val (.ref a1), .val (.ref a2), .val (.ref a3), .val (.int (1 : Int32)), .val (.int (0 : Int32))] []))
      refine Go.st (fun _ => XS.aloadN X0.here C.hx rfl (hb C.hby d2_34) rfl rfl) ?_
      show Go p e below s n0 _ _ _ (T0.setTop (mkF m 35 #[.val (.ref a1), .val (.ref a2), .val (.ref a3), .val (.int (1 : Int32)), .val (.int (0 : Int32))] [(.ref a1)]))
      refine Go.st (fun _ => XS.iload X0.here C.hx rfl (hb C.hby d2_35) rfl) ?_
      show Go p e below s n0 _ _ _ (T0.setTop (mkF m 37 #[.val (.ref a1), .val (.ref a2), .val (.ref a3), .val (.int (1 : Int32)), .val (.int (0 : Int32))] [(.int (0 : Int32)), (.ref a1)]))
      refine Go.baload C X0 A1 (by decide) rfl d2_37 ?_
      show Go p e below s n0 _ _ _ (T0.setTop (mkF m 38 #[.val (.ref a1), .val (.ref a2), .val (.ref a3), .val (.int (1 : Int32)), .val (.int (0 : Int32))] [(.int x0)]))
      refine Go.st (fun _ => XS.aloadN X0.here C.hx rfl (hb C.hby d2_38) rfl rfl) ?_
      show Go p e below s n0 _ _ _ (T0.setTop (mkF m 39 #[.val (.ref a1), .val (.ref a2), .val (.ref a3), .val (.int (1 : Int32)), .val (.int (0 : Int32))] [(.ref a3), (.int x0)]))
      refine Go.st (fun _ => XS.iload X0.here C.hx rfl (hb C.hby d2_39) rfl) ?_
      show Go p e below s n0 _ _ _ (T0.setTop (mkF m 41 #[.val (.ref a1), .val (.ref a2), .val (.ref a3), .val (.int (1 : Int32)), .val (.int (0 : Int32))] [(.int (0 : Int32)), (.ref a3), (.int x0)]))
      refine Go.baload C X0 A3 (by decide) rfl d2_41 ?_
      show Go p e below s n0 _ _ _ (T0.setTop (mkF m 42 #[.val (.ref a1), .val (.ref a2), .val (.ref a3), .val (.int (1 : Int32)), .val (.int (0 : Int32))] [(.int z0), (.int x0)]))
      refine Go.st (fun _ => XS.iand X0.here C.hx rfl (hb C.hby d2_42) rfl) ?_
      show Go p e below s n0 _ _ _ (T0.setTop (mkF m 43 #[.val (.ref a1), .val (.ref a2), .val (.ref a3), .val (.int (1 : Int32)), .val (.int (0 : Int32))] [(.int (x0 &&& z0))]))
      refine Go.st (fun _ => XS.aloadN X0.here C.hx rfl (hb C.hby d2_43) rfl rfl) ?_
      show Go p e below s n0 _ _ _ (T0.setTop (mkF m 44 #[.val (.ref a1), .val (.ref a2), .val (.ref a3), .val (.int (1 : Int32)), .val (.int (0 : Int32))] [(.ref a2), (.int (x0 &&& z0))]))
      refine Go.st (fun _ => XS.iload X0.here C.hx rfl (hb C.hby d2_44) rfl) ?_
      show Go p e below s n0 _ _ _ (T0.setTop (mkF m 46 #[.val (.ref a1), .val (.ref a2), .val (.ref a3), .val (.int (1 : Int32)), .val (.int (0 : Int32))] [(.int (0 : Int32)), (.ref a2), (.int (x0 &&& z0))]))
      refine Go.baload C X0 A2 (by decide) rfl d2_46 ?_
      show Go p e below s n0 _ _ _ (T0.setTop (mkF m 47 #[.val (.ref a1), .val (.ref a2), .val (.ref a3), .val (.int (1 : Int32)), .val (.int (0 : Int32))] [(.int y0), (.int (x0 &&& z0))]))
      refine Go.st (fun _ => XS.aloadN X0.here C.hx rfl (hb C.hby d2_47) rfl rfl) ?_
      show Go p e below s n0 _ _ _ (T0.setTop (mkF m 48 #[.val (.ref a1), .val (.ref a2), .val (.ref a3), .val (.int (1 : Int32)), .val (.int (0 : Int32))] [(.ref a3), (.int y0), (.int (x0 &&& z0))]))
      refine Go.st (fun _ => XS.iload X0.here C.hx rfl (hb C.hby d2_48) rfl) ?_
      show Go p e below s n0 _ _ _ (T0.setTop (mkF m 50 #[.val (.ref a1), .val (.ref a2), .val (.ref a3), .val (.int (1 : Int32)), .val (.int (0 : Int32))] [(.int (0 : Int32)), (.ref a3), (.int y0), (.int (x0 &&& z0))]))
      refine Go.baload C X0 A3 (by decide) rfl d2_50 ?_
      show Go p e below s n0 _ _ _ (T0.setTop (mkF m 51 #[.val (.ref a1), .val (.ref a2), .val (.ref a3), .val (.int (1 : Int32)), .val (.int (0 : Int32))] [(.int z0), (.int y0), (.int (x0 &&& z0))]))
      refine Go.st (fun _ => XS.iand X0.here C.hx rfl (hb C.hby d2_51) rfl) ?_
      show Go p e below s n0 _ _ _ (T0.setTop (mkF m 52 #[.val (.ref a1), .val (.ref a2), .val (.ref a3), .val (.int (1 : Int32)), .val (.int (0 : Int32))] [(.int (y0 &&& z0)), (.int (x0 &&& z0))]))
      refine Go.icmp_ne C X0 (pc' := 59) d2_52 (by decide) (by decide) (fun hc52_147 => ?_) (fun hc52_147 => ?_)
      · show Go p e below s n0 _ _ _ (T0.setTop (mkF m 59 #[.val (.ref a1), .val (.ref a2), .val (.ref a3), .val (.int (1 : Int32)), .val (.int (0 : Int32))] []))
        refine Go.st (fun _ => XS.iconst X0.here C.hx rfl (hb C.hby d2_59)) ?_
        show Go p e below s n0 _ _ _ (T0.setTop (mkF m 60 #[.val (.ref a1), .val (.ref a2), .val (.ref a3), .val (.int (1 : Int32)), .val (.int (0 : Int32))] [(.int (0 : Int32))]))
        refine Go.st (fun _ => XS.istoreN X0.here C.hx rfl (hb C.hby d2_60) rfl (l' := #[.val (.ref a1), .val (.ref a2), .val (.ref a3), .val (.int (0 : Int32)), .val (.int (0 : Int32))]) rfl) ?_
        show Go p e below s n0 _ _ _ (T0.setTop (mkF m 61 #[.val (.ref a1), .val (.ref a2), .val (.ref a3), .val (.int (0 : Int32)), .val (.int (0 : Int32))] []))
        refine Go.st (fun _ => XS.iinc X0.here C.hx rfl (hb C.hby d2_61) rfl (l' := #[.val (.ref a1), .val (.ref a2), .val (.ref a3), .val (.int (0 : Int32)), .val (.int (1 : Int32))]) rfl) ?_
        show Go p e below s n0 _ _ _ (T0.setTop (mkF m 64 #[.val (.ref a1), .val (.ref a2), .val (.ref a3), .val (.int (0 : Int32)), .val (.int (1 : Int32))] []))
        refine Go.st (fun _ => XS.goto X0.here C.hx rfl (pc0 := 64) (pc' := 23) rfl (hb C.hby d2_64) (by decide) (by decide)) ?_
        show Go p e below s n0 _ _ _ (T0.setTop (mkF m 23 #[.val (.ref a1), .val (.ref a2), .val (.ref a3), .val (.int (0 : Int32)), .val (.int (1 : Int32))] []))
        refine Go.st (fun _ => XS.iload X0.here C.hx rfl (hb C.hby d2_23) rfl) ?_
        show Go p e below s n0 _ _ _ (T0.setTop (mkF m 25 #[.val (.ref a1), .val (.ref a2), .val (.ref a3), .val (.int (0 : Int32)), .val (.int (1 : Int32))] [(.int (1 : Int32))]))
        refine Go.st (fun _ => XS.aloadN X0.here C.hx rfl (hb C.hby d2_25) rfl rfl) ?_
        show Go p e below s n0 _ _ _ (T0.setTop (mkF m 26 #[.val (.ref a1), .val (.ref a2), .val (.ref a3), .val (.int (0 : Int32)), .val (.int (1 : Int32))] [(.ref a3), (.int (1 : Int32))]))
        refine Go.alen C X0 A3 (z := (1 : Int32)) rfl d2_26 ?_
        show Go p e below s n0 _ _ _ (T0.setTop (mkF m 27 #[.val (.ref a1), .val (.ref a2), .val (.ref a3), .val (.int (0 : Int32)), .val (.int (1 : Int32))] [(.int (1 : Int32)), (.int (1 : Int32))]))
        refine Go.icmp_ge C X0 (pc' := 67) d2_27 (by decide) (by decide) (fun _ => ?_) (fun hc => absurd hc (by decide))
        show Go p e below s n0 _ _ _ (T0.setTop (mkF m 67 #[.val (.ref a1), .val (.ref a2), .val (.ref a3), .val (.int (0 : Int32)), .val (.int (1 : Int32))] []))
        refine Go.st (fun _ => XS.iloadN X0.here C.hx rfl (hb C.hby d2_67) rfl) ?_
        show Go p e below s n0 _ _ _ (T0.setTop (mkF m 68 #[.val (.ref a1), .val (.ref a2), .val (.ref a3), .val (.int (0 : Int32)), .val (.int (1 : Int32))] [(.int (0 : Int32))]))
        exact Go.retZ C X0 (by decide) d2_68 ⟨by simp [eqmF, eqL, hc52_147], rfl⟩ (by decide) (by decide)
      · show Go p e below s n0 _ _ _ (T0.setTop (mkF m 55 #[.val (.ref a1), .val (.ref a2), .val (.ref a3), .val (.int (1 : Int32)), .val (.int (0 : Int32))] []))
        refine Go.st (fun _ => XS.iconst X0.here C.hx rfl (hb C.hby d2_55)) ?_
        show Go p e below s n0 _ _ _ (T0.setTop (mkF m 56 #[.val (.ref a1), .val (.ref a2), .val (.ref a3), .val (.int (1 : Int32)), .val (.int (0 : Int32))] [(.int (1 : Int32))]))
        refine Go.st (fun _ => XS.goto X0.here C.hx rfl (pc0 := 56) (pc' := 60) rfl (hb C.hby d2_56) (by decide) (by decide)) ?_
        show Go p e below s n0 _ _ _ (T0.setTop (mkF m 60 #[.val (.ref a1), .val (.ref a2), .val (.ref a3), .val (.int (1 : Int32)), .val (.int (0 : Int32))] [(.int (1 : Int32))]))
        refine Go.st (fun _ => XS.istoreN X0.here C.hx rfl (hb C.hby d2_60) rfl (l' := #[.val (.ref a1), .val (.ref a2), .val (.ref a3), .val (.int (1 : Int32)), .val (.int (0 : Int32))]) rfl) ?_
        show Go p e below s n0 _ _ _ (T0.setTop (mkF m 61 #[.val (.ref a1), .val (.ref a2), .val (.ref a3), .val (.int (1 : Int32)), .val (.int (0 : Int32))] []))
        refine Go.st (fun _ => XS.iinc X0.here C.hx rfl (hb C.hby d2_61) rfl (l' := #[.val (.ref a1), .val (.ref a2), .val (.ref a3), .val (.int (1 : Int32)), .val (.int (1 : Int32))]) rfl) ?_
        show Go p e below s n0 _ _ _ (T0.setTop (mkF m 64 #[.val (.ref a1), .val (.ref a2), .val (.ref a3), .val (.int (1 : Int32)), .val (.int (1 : Int32))] []))
        refine Go.st (fun _ => XS.goto X0.here C.hx rfl (pc0 := 64) (pc' := 23) rfl (hb C.hby d2_64) (by decide) (by decide)) ?_
        show Go p e below s n0 _ _ _ (T0.setTop (mkF m 23 #[.val (.ref a1), .val (.ref a2), .val (.ref a3), .val (.int (1 : Int32)), .val (.int (1 : Int32))] []))
        refine Go.st (fun _ => XS.iload X0.here C.hx rfl (hb C.hby d2_23) rfl) ?_
        show Go p e below s n0 _ _ _ (T0.setTop (mkF m 25 #[.val (.ref a1), .val (.ref a2), .val (.ref a3), .val (.int (1 : Int32)), .val (.int (1 : Int32))] [(.int (1 : Int32))]))
        refine Go.st (fun _ => XS.aloadN X0.here C.hx rfl (hb C.hby d2_25) rfl rfl) ?_
        show Go p e below s n0 _ _ _ (T0.setTop (mkF m 26 #[.val (.ref a1), .val (.ref a2), .val (.ref a3), .val (.int (1 : Int32)), .val (.int (1 : Int32))] [(.ref a3), (.int (1 : Int32))]))
        refine Go.alen C X0 A3 (z := (1 : Int32)) rfl d2_26 ?_
        show Go p e below s n0 _ _ _ (T0.setTop (mkF m 27 #[.val (.ref a1), .val (.ref a2), .val (.ref a3), .val (.int (1 : Int32)), .val (.int (1 : Int32))] [(.int (1 : Int32)), (.int (1 : Int32))]))
        refine Go.icmp_ge C X0 (pc' := 67) d2_27 (by decide) (by decide) (fun _ => ?_) (fun hc => absurd hc (by decide))
        show Go p e below s n0 _ _ _ (T0.setTop (mkF m 67 #[.val (.ref a1), .val (.ref a2), .val (.ref a3), .val (.int (1 : Int32)), .val (.int (1 : Int32))] []))
        refine Go.st (fun _ => XS.iloadN X0.here C.hx rfl (hb C.hby d2_67) rfl) ?_
        show Go p e below s n0 _ _ _ (T0.setTop (mkF m 68 #[.val (.ref a1), .val (.ref a2), .val (.ref a3), .val (.int (1 : Int32)), .val (.int (1 : Int32))] [(.int (1 : Int32))]))
        exact Go.retZ C X0 (by decide) d2_68 ⟨by simp [eqmF, eqL, hc52_147], rfl⟩ (by decide) (by decide)
    · obtain ⟨x0, x1, e_xs⟩ := ll2 xs (by omega)
      obtain ⟨y0, y1, e_ys⟩ := ll2 ys (by omega)
      obtain ⟨z0, z1, e_zs⟩ := ll2 zs hk
      subst e_xs e_ys e_zs
      show Go p e below s n0 _ _ _ (T0.setTop (mkF m 0 #[.val (.ref a1), .val (.ref a2), .val (.ref a3), .unset, .unset] []))
      refine Go.st (fun _ => XS.aloadN X0.here C.hx rfl (hb C.hby d2_0) rfl rfl) ?_
      show Go p e below s n0 _ _ _ (T0.setTop (mkF m 1 #[.val (.ref a1), .val (.ref a2), .val (.ref a3), .unset, .unset] [(.ref a1)]))
      refine Go.alen C X0 A1 (z := (2 : Int32)) rfl d2_1 ?_
      show Go p e below s n0 _ _ _ (T0.setTop (mkF m 2 #[.val (.ref a1), .val (.ref a2), .val (.ref a3), .unset, .unset] [(.int (2 : Int32))]))
      refine Go.st (fun _ => XS.aloadN X0.here C.hx rfl (hb C.hby d2_2) rfl rfl) ?_
      show Go p e below s n0 _ _ _ (T0.setTop (mkF m 3 #[.val (.ref a1), .val (.ref a2), .val (.ref a3), .unset, .unset] [(.ref a2), (.int (2 : Int32))]))
      refine Go.alen C X0 A2 (z := (2 : Int32)) rfl d2_3 ?_
      show Go p e below s n0 _ _ _ (T0.setTop (mkF m 4 #[.val (.ref a1), .val (.ref a2), .val (.ref a3), .unset, .unset] [(.int (2 : Int32)), (.int (2 : Int32))]))
      refine Go.icmp_ne C X0 (pc' := 18) d2_4 (by decide) (by decide) (fun hc => absurd hc (by decide)) (fun _ => ?_)
      show Go p e below s n0 _ _ _ (T0.setTop (mkF m 7 #[.val (.ref a1), .val (.ref a2), .val (.ref a3), .unset, .unset] []))
      refine Go.st (fun _ => XS.aloadN X0.here C.hx rfl (hb C.hby d2_7) rfl rfl) ?_
      show Go p e below s n0 _ _ _ (T0.setTop (mkF m 8 #[.val (.ref a1), .val (.ref a2), .val (.ref a3), .unset, .unset] [(.ref a1)]))
      refine Go.alen C X0 A1 (z := (2 : Int32)) rfl d2_8 ?_
      show Go p e below s n0 _ _ _ (T0.setTop (mkF m 9 #[.val (.ref a1), .val (.ref a2), .val (.ref a3), .unset, .unset] [(.int (2 : Int32))]))
      refine Go.st (fun _ => XS.aloadN X0.here C.hx rfl (hb C.hby d2_9) rfl rfl) ?_
      show Go p e below s n0 _ _ _ (T0.setTop (mkF m 10 #[.val (.ref a1), .val (.ref a2), .val (.ref a3), .unset, .unset] [(.ref a3), (.int (2 : Int32))]))
      refine Go.alen C X0 A3 (z := (2 : Int32)) rfl d2_10 ?_
      show Go p e below s n0 _ _ _ (T0.setTop (mkF m 11 #[.val (.ref a1), .val (.ref a2), .val (.ref a3), .unset, .unset] [(.int (2 : Int32)), (.int (2 : Int32))]))
      refine Go.icmp_ne C X0 (pc' := 18) d2_11 (by decide) (by decide) (fun hc => absurd hc (by decide)) (fun _ => ?_)
      show Go p e below s n0 _ _ _ (T0.setTop (mkF m 14 #[.val (.ref a1), .val (.ref a2), .val (.ref a3), .unset, .unset] []))
      refine Go.st (fun _ => XS.iconst X0.here C.hx rfl (hb C.hby d2_14)) ?_
      show Go p e below s n0 _ _ _ (T0.setTop (mkF m 15 #[.val (.ref a1), .val (.ref a2), .val (.ref a3), .unset, .unset] [(.int (1 : Int32))]))
      refine Go.st (fun _ => XS.goto X0.here C.hx rfl (pc0 := 15) (pc' := 19) rfl (hb C.hby d2_15) (by decide) (by decide)) ?_
      show Go p e below s n0 _ _ _ (T0.setTop (mkF m 19 #[.val (.ref a1), .val (.ref a2), .val (.ref a3), .unset, .unset] [(.int (1 : Int32))]))
      refine Go.st (fun _ => XS.istoreN X0.here C.hx rfl (hb C.hby d2_19) rfl (l' := #[.val (.ref a1), .val (.ref a2), .val (.ref a3), .val (.int (1 : Int32)), .unset]) rfl) ?_
      show Go p e below s n0 _ _ _ (T0.setTop (mkF m 20 #[.val (.ref a1), .val (.ref a2), .val (.ref a3), .val (.int (1 : Int32)), .unset] []))
      refine Go.st (fun _ => XS.iconst X0.here C.hx rfl (hb C.hby d2_20)) ?_
      show Go p e below s n0 _ _ _ (T0.setTop (mkF m 21 #[.val (.ref a1), .val (.ref a2), .val (.ref a3), .val (.int (1 : Int32)), .unset] [(.int (0 : Int32))]))
      refine Go.st (fun _ => XS.istore X0.here C.hx rfl (hb C.hby d2_21) rfl (l' := #[.val (.ref a1), .val (.ref a2), .val (.ref a3), .val (.int (1 : Int32)), .val (.int (0 : Int32))]) rfl) ?_
      show Go p e below s n0 _ _ _ (T0.setTop (mkF m 23 #[.val (.ref a1), .val (.ref a2), .val (.ref a3), .val (.int (1 : Int32)), .val (.int (0 : Int32))] []))
      refine Go.st (fun _ => XS.iload X0.here C.hx rfl (hb C.hby d2_23) rfl) ?_
      show Go p e below s n0 _ _ _ (T0.setTop (mkF m 25 #[.val (.ref a1), .val (.ref a2), .val (.ref a3), .val (.int (1 : Int32)), .val (.int (0 : Int32))] [(.int (0 : Int32))]))
      refine Go.st (fun _ => XS.aloadN X0.here C.hx rfl (hb C.hby d2_25) rfl rfl) ?_
      show Go p e below s n0 _ _ _ (T0.setTop (mkF m 26 #[.val (.ref a1), .val (.ref a2), .val (.ref a3), .val (.int (1 : Int32)), .val (.int (0 : Int32))] [(.ref a3), (.int (0 : Int32))]))
      refine Go.alen C X0 A3 (z := (2 : Int32)) rfl d2_26 ?_
      show Go p e below s n0 _ _ _ (T0.setTop (mkF m 27 #[.val (.ref a1), .val (.ref a2), .val (.ref a3), .val (.int (1 : Int32)), .val (.int (0 : Int32))] [(.int (2 : Int32)), (.int (0 : Int32))]))
      refine Go.icmp_ge C X0 (pc' := 67) d2_27 (by decide) (by decide) (fun hc => absurd hc (by decide)) (fun _ => ?_)
      show Go p e below s n0 _ _ _ (T0.setTop (mkF m 30 #[.val (.ref a1), .val (.ref a2), .val (.ref a3), .val (.int (1 : Int32)), .val (.int (0 : Int32))] []))
      refine Go.st (fun _ => XS.iloadN X0.here C.hx rfl (hb C.hby d2_30) rfl) ?_
      show Go p e below s n0 _ _ _ (T0.setTop (mkF m 31 #[.val (.ref a1), .val (.ref a2), .val (.ref a3), .val (.int (1 : Int32)), .val (.int (0 : Int32))] [(.int (1 : Int32))]))
      refine Go.if_eq C X0 (pc' := 67) d2_31 (by decide) (by decide) (fun hc => absurd hc (by decide)) (fun _ => ?_)
      show Go p e below s n0 _ _ _ (T0.setTop (mkF m 34 #[.val (.ref a1), .val (.ref a2), .val (.ref a3), .val (.int (1 : Int32)), .val (.int (0 : Int32))] []))
      refine Go.st (fun _ => XS.aloadN X0.here C.hx rfl (hb C.hby d2_34) rfl rfl) ?_
      show Go p e below s n0 _ _ _ (T0.setTop (mkF m 35 #[.val (.ref a1), .val (.ref a2), .val (.ref a3), .val (.int (1 : Int32)), .val (.int (0 : Int32))] [(.ref a1)]))
      refine Go.st (fun _ => XS.iload X0.here C.hx rfl (hb C.hby d2_35) rfl) ?_
      show Go p e below s n0 _ _ _ (T0.setTop (mkF m 37 #[.val (.ref a1), .val (.ref a2), .val (.ref a3), .val (.int (1 : Int32)), .val (.int (0 : Int32))] [(.int (0 : Int32)), (.ref a1)]))
      refine Go.baload C X0 A1 (by decide) rfl d2_37 ?_
      show Go p e below s n0 _ _ _ (T0.setTop (mkF m 38 #[.val (.ref a1), .val (.ref a2), .val (.ref a3), .val (.int (1 : Int32)), .val (.int (0 : Int32))] [(.int x0)]))
      refine Go.st (fun _ => XS.aloadN X0.here C.hx rfl (hb C.hby d2_38) rfl rfl) ?_
      show Go p e below s n0 _ _ _ (T0.setTop (mkF m 39 #[.val (.ref a1), .val (.ref a2), .val (.ref a3), .val (.int (1 : Int32)), .val (.int (0 : Int32))] [(.ref a3), (.int x0)]))
      refine Go.st (fun _ => XS.iload X0.here C.hx rfl (hb C.hby d2_39) rfl) ?_
      show Go p e below s n0 _ _ _ (T0.setTop (mkF m 41 #[.val (.ref a1), .val (.ref a2), .val (.ref a3), .val (.int (1 : Int32)), .val (.int (0 : Int32))] [(.int (0 : Int32)), (.ref a3), (.int x0)]))
      refine Go.baload C X0 A3 (by decide) rfl d2_41 ?_
      show Go p e below s n0 _ _ _ (T0.setTop (mkF m 42 #[.val (.ref a1), .val (.ref a2), .val (.ref a3), .val (.int (1 : Int32)), .val (.int (0 : Int32))] [(.int z0), (.int x0)]))
      refine Go.st (fun _ => XS.iand X0.here C.hx rfl (hb C.hby d2_42) rfl) ?_
      show Go p e below s n0 _ _ _ (T0.setTop (mkF m 43 #[.val (.ref a1), .val (.ref a2), .val (.ref a3), .val (.int (1 : Int32)), .val (.int (0 : Int32))] [(.int (x0 &&& z0))]))
      refine Go.st (fun _ => XS.aloadN X0.here C.hx rfl (hb C.hby d2_43) rfl rfl) ?_
      show Go p e below s n0 _ _ _ (T0.setTop (mkF m 44 #[.val (.ref a1), .val (.ref a2), .val (.ref a3), .val (.int (1 : Int32)), .val (.int (0 : Int32))] [(.ref a2), (.int (x0 &&& z0))]))
      refine Go.st (fun _ => XS.iload X0.here C.hx rfl (hb C.hby d2_44) rfl) ?_
      show Go p e below s n0 _ _ _ (T0.setTop (mkF m 46 #[.val (.ref a1), .val (.ref a2), .val (.ref a3), .val (.int (1 : Int32)), .val (.int (0 : Int32))] [(.int (0 : Int32)), (.ref a2), (.int (x0 &&& z0))]))
      refine Go.baload C X0 A2 (by decide) rfl d2_46 ?_
      show Go p e below s n0 _ _ _ (T0.setTop (mkF m 47 #[.val (.ref a1), .val (.ref a2), .val (.ref a3), .val (.int (1 : Int32)), .val (.int (0 : Int32))] [(.int y0), (.int (x0 &&& z0))]))
      refine Go.st (fun _ => XS.aloadN X0.here C.hx rfl (hb C.hby d2_47) rfl rfl) ?_
      show Go p e below s n0 _ _ _ (T0.setTop (mkF m 48 #[.val (.ref a1), .val (.ref a2), .val (.ref a3), .val (.int (1 : Int32)), .val (.int (0 : Int32))] [(.ref a3), (.int y0), (.int (x0 &&& z0))]))
      refine Go.st (fun _ => XS.iload X0.here C.hx rfl (hb C.hby d2_48) rfl) ?_
      show Go p e below s n0 _ _ _ (T0.setTop (mkF m 50 #[.val (.ref a1), .val (.ref a2), .val (.ref a3), .val (.int (1 : Int32)), .val (.int (0 : Int32))] [(.int (0 : Int32)), (.ref a3), (.int y0), (.int (x0 &&& z0))]))
      refine Go.baload C X0 A3 (by decide) rfl d2_50 ?_
      show Go p e below s n0 _ _ _ (T0.setTop (mkF m 51 #[.val (.ref a1), .val (.ref a2), .val (.ref a3), .val (.int (1 : Int32)), .val (.int (0 : Int32))] [(.int z0), (.int y0), (.int (x0 &&& z0))]))
      refine Go.st (fun _ => XS.iand X0.here C.hx rfl (hb C.hby d2_51) rfl) ?_
      show Go p e below s n0 _ _ _ (T0.setTop (mkF m 52 #[.val (.ref a1), .val (.ref a2), .val (.ref a3), .val (.int (1 : Int32)), .val (.int (0 : Int32))] [(.int (y0 &&& z0)), (.int (x0 &&& z0))]))
      refine Go.icmp_ne C X0 (pc' := 59) d2_52 (by decide) (by decide) (fun hc52_154 => ?_) (fun hc52_154 => ?_)
      · show Go p e below s n0 _ _ _ (T0.setTop (mkF m 59 #[.val (.ref a1), .val (.ref a2), .val (.ref a3), .val (.int (1 : Int32)), .val (.int (0 : Int32))] []))
        refine Go.st (fun _ => XS.iconst X0.here C.hx rfl (hb C.hby d2_59)) ?_
        show Go p e below s n0 _ _ _ (T0.setTop (mkF m 60 #[.val (.ref a1), .val (.ref a2), .val (.ref a3), .val (.int (1 : Int32)), .val (.int (0 : Int32))] [(.int (0 : Int32))]))
        refine Go.st (fun _ => XS.istoreN X0.here C.hx rfl (hb C.hby d2_60) rfl (l' := #[.val (.ref a1), .val (.ref a2), .val (.ref a3), .val (.int (0 : Int32)), .val (.int (0 : Int32))]) rfl) ?_
        show Go p e below s n0 _ _ _ (T0.setTop (mkF m 61 #[.val (.ref a1), .val (.ref a2), .val (.ref a3), .val (.int (0 : Int32)), .val (.int (0 : Int32))] []))
        refine Go.st (fun _ => XS.iinc X0.here C.hx rfl (hb C.hby d2_61) rfl (l' := #[.val (.ref a1), .val (.ref a2), .val (.ref a3), .val (.int (0 : Int32)), .val (.int (1 : Int32))]) rfl) ?_
        show Go p e below s n0 _ _ _ (T0.setTop (mkF m 64 #[.val (.ref a1), .val (.ref a2), .val (.ref a3), .val (.int (0 : Int32)), .val (.int (1 : Int32))] []))
        refine Go.st (fun _ => XS.goto X0.here C.hx rfl (pc0 := 64) (pc' := 23) rfl (hb C.hby d2_64) (by decide) (by decide)) ?_
        show Go p e below s n0 _ _ _ (T0.setTop (mkF m 23 #[.val (.ref a1), .val (.ref a2), .val (.ref a3), .val (.int (0 : Int32)), .val (.int (1 : Int32))] []))
        refine Go.st (fun _ => XS.iload X0.here C.hx rfl (hb C.hby d2_23) rfl) ?_
        show Go p e below s n0 _ _ _ (T0.setTop (mkF m 25 #[.val (.ref a1), .val (.ref a2), .val (.ref a3), .val (.int (0 : Int32)), .val (.int (1 : Int32))] [(.int (1 : Int32))]))
        refine Go.st (fun _ => XS.aloadN X0.here C.hx rfl (hb C.hby d2_25) rfl rfl) ?_
        show Go p e below s n0 _ _ _ (T0.setTop (mkF m 26 #[.val (.ref a1), .val (.ref a2), .val (.ref a3), .val (.int (0 : Int32)), .val (.int (1 : Int32))] [(.ref a3), (.int (1 : Int32))]))
        refine Go.alen C X0 A3 (z := (2 : Int32)) rfl d2_26 ?_
        show Go p e below s n0 _ _ _ (T0.setTop (mkF m 27 #[.val (.ref a1), .val (.ref a2), .val (.ref a3), .val (.int (0 : Int32)), .val (.int (1 : Int32))] [(.int (2 : Int32)), (.int (1 : Int32))]))
        refine Go.icmp_ge C X0 (pc' := 67) d2_27 (by decide) (by decide) (fun hc => absurd hc (by decide)) (fun _ => ?_)
        show Go p e below s n0 _ _ _ (T0.setTop (mkF m 30 #[.val (.ref a1), .val (.ref a2), .val (.ref a3), .val (.int (0 : Int32)), .val (.int (1 : Int32))] []))
        refine Go.st (fun _ => XS.iloadN X0.here C.hx rfl (hb C.hby d2_30) rfl) ?_
        show Go p e below s n0 _ _ _ (T0.setTop (mkF m 31 #[.val (.ref a1), .val (.ref a2), .val (.ref a3), .val (.int (0 : Int32)), .val (.int (1 : Int32))] [(.int (0 : Int32))]))
        refine Go.if_eq C X0 (pc' := 67) d2_31 (by decide) (by decide) (fun _ => ?_) (fun hc => absurd hc (by decide))
        show Go p e below s n0 _ _ _ (T0.setTop (mkF m 67 #[.val (.ref a1), .val (.ref a2), .val (.ref a3), .val (.int (0 : Int32)), .val (.int (1 : Int32))] []))
        refine Go.st (fun _ => XS.iloadN X0.here C.hx rfl (hb C.hby d2_67) rfl) ?_
        show Go p e below s n0 _ _ _ (T0.setTop (mkF m 68 #[.val (.ref a1), .val (.ref a2), .val (.ref a3), .val (.int (0 : Int32)), .val (.int (1 : Int32))] [(.int (0 : Int32))]))
        exact Go.retZ C X0 (by decide) d2_68 ⟨by simp [eqmF, eqL, hc52_154], rfl⟩ (by decide) (by decide)
      · show Go p e below s n0 _ _ _ (T0.setTop (mkF m 55 #[.val (.ref a1), .val (.ref a2), .val (.ref a3), .val (.int (1 : Int32)), .val (.int (0 : Int32))] []))
        refine Go.st (fun _ => XS.iconst X0.here C.hx rfl (hb C.hby d2_55)) ?_
        show Go p e below s n0 _ _ _ (T0.setTop (mkF m 56 #[.val (.ref a1), .val (.ref a2), .val (.ref a3), .val (.int (1 : Int32)), .val (.int (0 : Int32))] [(.int (1 : Int32))]))
        refine Go.st (fun _ => XS.goto X0.here C.hx rfl (pc0 := 56) (pc' := 60) rfl (hb C.hby d2_56) (by decide) (by decide)) ?_
        show Go p e below s n0 _ _ _ (T0.setTop (mkF m 60 #[.val (.ref a1), .val (.ref a2), .val (.ref a3), .val (.int (1 : Int32)), .val (.int (0 : Int32))] [(.int (1 : Int32))]))
        refine Go.st (fun _ => XS.istoreN X0.here C.hx rfl (hb C.hby d2_60) rfl (l' := #[.val (.ref a1), .val (.ref a2), .val (.ref a3), .val (.int (1 : Int32)), .val (.int (0 : Int32))]) rfl) ?_
        show Go p e below s n0 _ _ _ (T0.setTop (mkF m 61 #[.val (.ref a1), .val (.ref a2), .val (.ref a3), .val (.int (1 : Int32)), .val (.int (0 : Int32))] []))
        refine Go.st (fun _ => XS.iinc X0.here C.hx rfl (hb C.hby d2_61) rfl (l' := #[.val (.ref a1), .val (.ref a2), .val (.ref a3), .val (.int (1 : Int32)), .val (.int (1 : Int32))]) rfl) ?_
        show Go p e below s n0 _ _ _ (T0.setTop (mkF m 64 #[.val (.ref a1), .val (.ref a2), .val (.ref a3), .val (.int (1 : Int32)), .val (.int (1 : Int32))] []))
        refine Go.st (fun _ => XS.goto X0.here C.hx rfl (pc0 := 64) (pc' := 23) rfl (hb C.hby d2_64) (by decide) (by decide)) ?_
        show Go p e below s n0 _ _ _ (T0.setTop (mkF m 23 #[.val (.ref a1), .val (.ref a2), .val (.ref a3), .val (.int (1 : Int32)), .val (.int (1 : Int32))] []))
        refine Go.st (fun _ => XS.iload X0.here C.hx rfl (hb C.hby d2_23) rfl) ?_
        show Go p e below s n0 _ _ _ (T0.setTop (mkF m 25 #[.val (.ref a1), .val (.ref a2), .val (.ref a3), .val (.int (1 : Int32)), .val (.int (1 : Int32))] [(.int (1 : Int32))]))
        refine Go.st (fun _ => XS.aloadN X0.here C.hx rfl (hb C.hby d2_25) rfl rfl) ?_
        show Go p e below s n0 _ _ _ (T0.setTop (mkF m 26 #[.val (.ref a1), .val (.ref a2), .val (.ref a3), .val (.int (1 : Int32)), .val (.int (1 : Int32))] [(.ref a3), (.int (1 : Int32))]))
        refine Go.alen C X0 A3 (z := (2 : Int32)) rfl d2_26 ?_
        show Go p e below s n0 _ _ _ (T0.setTop (mkF m 27 #[.val (.ref a1), .val (.ref a2), .val (.ref a3), .val (.int (1 : Int32)), .val (.int (1 : Int32))] [(.int (2 : Int32)), (.int (1 : Int32))]))
        refine Go.icmp_ge C X0 (pc' := 67) d2_27 (by decide) (by decide) (fun hc => absurd hc (by decide)) (fun _ => ?_)
        show Go p e below s n0 _ _ _ (T0.setTop (mkF m 30 #[.val (.ref a1), .val (.ref a2), .val (.ref a3), .val (.int (1 : Int32)), .val (.int (1 : Int32))] []))
        refine Go.st (fun _ => XS.iloadN X0.here C.hx rfl (hb C.hby d2_30) rfl) ?_
        show Go p e below s n0 _ _ _ (T0.setTop (mkF m 31 #[.val (.ref a1), .val (.ref a2), .val (.ref a3), .val (.int (1 : Int32)), .val (.int (1 : Int32))] [(.int (1 : Int32))]))
        refine Go.if_eq C X0 (pc' := 67) d2_31 (by decide) (by decide) (fun hc => absurd hc (by decide)) (fun _ => ?_)
        show Go p e below s n0 _ _ _ (T0.setTop (mkF m 34 #[.val (.ref a1), .val (.ref a2), .val (.ref a3), .val (.int (1 : Int32)), .val (.int (1 : Int32))] []))
        refine Go.st (fun _ => XS.aloadN X0.here C.hx rfl (hb C.hby d2_34) rfl rfl) ?_
        show Go p e below s n0 _ _ _ (T0.setTop (mkF m 35 #[.val (.ref a1), .val (.ref a2), .val (.ref a3), .val (.int (1 : Int32)), .val (.int (1 : Int32))] [(.ref a1)]))
        refine Go.st (fun _ => XS.iload X0.here C.hx rfl (hb C.hby d2_35) rfl) ?_
        show Go p e below s n0 _ _ _ (T0.setTop (mkF m 37 #[.val (.ref a1), .val (.ref a2), .val (.ref a3), .val (.int (1 : Int32)), .val (.int (1 : Int32))] [(.int (1 : Int32)), (.ref a1)]))
        refine Go.baload C X0 A1 (by decide) rfl d2_37 ?_
        show Go p e below s n0 _ _ _ (T0.setTop (mkF m 38 #[.val (.ref a1), .val (.ref a2), .val (.ref a3), .val (.int (1 : Int32)), .val (.int (1 : Int32))] [(.int x1)]))
        refine Go.st (fun _ => XS.aloadN X0.here C.hx rfl (hb C.hby d2_38) rfl rfl) ?_
        show Go p e below s n0 _ _ _ (T0.setTop (mkF m 39 #[.val (.ref a1), .val (.ref a2), .val (.ref a3), .val (.int (1 : Int32)), .val (.int (1 : Int32))] [(.ref a3), (.int x1)]))
        refine Go.st (fun _ => XS.iload X0.here C.hx rfl (hb C.hby d2_39) rfl) ?_
        show Go p e below s n0 _ _ _ (T0.setTop (mkF m 41 #[.val (.ref a1), .val (.ref a2), .val (.ref a3), .val (.int (1 : Int32)), .val (.int (1 : Int32))] [(.int (1 : Int32)), (.ref a3), (.int x1)]))
        refine Go.baload C X0 A3 (by decide) rfl d2_41 ?_
        show Go p e below s n0 _ _ _ (T0.setTop (mkF m 42 #[.val (.ref a1), .val (.ref a2), .val (.ref a3), .val (.int (1 : Int32)), .val (.int (1 : Int32))] [(.int z1), (.int x1)]))
        refine Go.st (fun _ => XS.iand X0.here C.hx rfl (hb C.hby d2_42) rfl) ?_
        show Go p e below s n0 _ _ _ (T0.setTop (mkF m 43 #[.val (.ref a1), .val (.ref a2), .val (.ref a3), .val (.int (1 : Int32)), .val (.int (1 : Int32))] [(.int (x1 &&& z1))]))
        refine Go.st (fun _ => XS.aloadN X0.here C.hx rfl (hb C.hby d2_43) rfl rfl) ?_
        show Go p e below s n0 _ _ _ (T0.setTop (mkF m 44 #[.val (.ref a1), .val (.ref a2), .val (.ref a3), .val (.int (1 : Int32)), .val (.int (1 : Int32))] [(.ref a2), (.int (x1 &&& z1))]))
        refine Go.st (fun _ => XS.iload X0.here C.hx rfl (hb C.hby d2_44) rfl) ?_
        show Go p e below s n0 _ _ _ (T0.setTop (mkF m 46 #[.val (.ref a1), .val (.ref a2), .val (.ref a3), .val (.int (1 : Int32)), .val (.int (1 : Int32))] [(.int (1 : Int32)), (.ref a2), (.int (x1 &&& z1))]))
        refine Go.baload C X0 A2 (by decide) rfl d2_46 ?_
        show Go p e below s n0 _ _ _ (T0.setTop (mkF m 47 #[.val (.ref a1), .val (.ref a2), .val (.ref a3), .val (.int (1 : Int32)), .val (.int (1 : Int32))] [(.int y1), (.int (x1 &&& z1))]))
        refine Go.st (fun _ => XS.aloadN X0.here C.hx rfl (hb C.hby d2_47) rfl rfl) ?_
        show Go p e below s n0 _ _ _ (T0.setTop (mkF m 48 #[.val (.ref a1), .val (.ref a2), .val (.ref a3), .val (.int (1 : Int32)), .val (.int (1 : Int32))] [(.ref a3), (.int y1), (.int (x1 &&& z1))]))
        refine Go.st (fun _ => XS.iload X0.here C.hx rfl (hb C.hby d2_48) rfl) ?_
        show Go p e below s n0 _ _ _ (T0.setTop (mkF m 50 #[.val (.ref a1), .val (.ref a2), .val (.ref a3), .val (.int (1 : Int32)), .val (.int (1 : Int32))] [(.int (1 : Int32)), (.ref a3), (.int y1), (.int (x1 &&& z1))]))
        refine Go.baload C X0 A3 (by decide) rfl d2_50 ?_
        show Go p e below s n0 _ _ _ (T0.setTop (mkF m 51 #[.val (.ref a1), .val (.ref a2), .val (.ref a3), .val (.int (1 : Int32)), .val (.int (1 : Int32))] [(.int z1), (.int y1), (.int (x1 &&& z1))]))
        refine Go.st (fun _ => XS.iand X0.here C.hx rfl (hb C.hby d2_51) rfl) ?_
        show Go p e below s n0 _ _ _ (T0.setTop (mkF m 52 #[.val (.ref a1), .val (.ref a2), .val (.ref a3), .val (.int (1 : Int32)), .val (.int (1 : Int32))] [(.int (y1 &&& z1)), (.int (x1 &&& z1))]))
        refine Go.icmp_ne C X0 (pc' := 59) d2_52 (by decide) (by decide) (fun hc52_159 => ?_) (fun hc52_159 => ?_)
        · show Go p e below s n0 _ _ _ (T0.setTop (mkF m 59 #[.val (.ref a1), .val (.ref a2), .val (.ref a3), .val (.int (1 : Int32)), .val (.int (1 : Int32))] []))
          refine Go.st (fun _ => XS.iconst X0.here C.hx rfl (hb C.hby d2_59)) ?_
          show Go p e below s n0 _ _ _ (T0.setTop (mkF m 60 #[.val (.ref a1), .val (.ref a2), .val (.ref a3), .val (.int (1 : Int32)), .val (.int (1 : Int32))] [(.int (0 : Int32))]))
          refine Go.st (fun _ => XS.istoreN X0.here C.hx rfl (hb C.hby d2_60) rfl (l' := #[.val (.ref a1), .val (.ref a2), .val (.ref a3), .val (.int (0 : Int32)), .val (.int (1 : Int32))]) rfl) ?_
          show Go p e below s n0 _ _ _ (T0.setTop (mkF m 61 #[.val (.ref a1), .val (.ref a2), .val (.ref a3), .val (.int (0 : Int32)), .val (.int (1 : Int32))] []))
          refine Go.st (fun _ => XS.iinc X0.here C.hx rfl (hb C.hby d2_61) rfl (l' := #[.val (.ref a1), .val (.ref a2), .val (.ref a3), .val (.int (0 : Int32)), .val (.int (2 : Int32))]) rfl) ?_
          show Go p e below s n0 _ _ _ (T0.setTop (mkF m 64 #[.val (.ref a1), .val (.ref a2), .val (.ref a3), .val (.int (0 : Int32)), .val (.int (2 : Int32))] []))
          refine Go.st (fun _ => XS.goto X0.here C.hx rfl (pc0 := 64) (pc' := 23) rfl (hb C.hby d2_64) (by decide) (by decide)) ?_
          show Go p e below s n0 _ _ _ (T0.setTop (mkF m 23 #[.val (.ref a1), .val (.ref a2), .val (.ref a3), .val (.int (0 : Int32)), .val (.int (2 : Int32))] []))
          refine Go.st (fun _ => XS.iload X0.here C.hx rfl (hb C.hby d2_23) rfl) ?_
          show Go p e below s n0 _ _ _ (T0.setTop (mkF m 25 #[.val (.ref a1), .val (.ref a2), .val (.ref a3), .val (.int (0 : Int32)), .val (.int (2 : Int32))] [(.int (2 : Int32))]))
          refine Go.st (fun _ => XS.aloadN X0.here C.hx rfl (hb C.hby d2_25) rfl rfl) ?_
          show Go p e below s n0 _ _ _ (T0.setTop (mkF m 26 #[.val (.ref a1), .val (.ref a2), .val (.ref a3), .val (.int (0 : Int32)), .val (.int (2 : Int32))] [(.ref a3), (.int (2 : Int32))]))
          refine Go.alen C X0 A3 (z := (2 : Int32)) rfl d2_26 ?_
          show Go p e below s n0 _ _ _ (T0.setTop (mkF m 27 #[.val (.ref a1), .val (.ref a2), .val (.ref a3), .val (.int (0 : Int32)), .val (.int (2 : Int32))] [(.int (2 : Int32)), (.int (2 : Int32))]))
          refine Go.icmp_ge C X0 (pc' := 67) d2_27 (by decide) (by decide) (fun _ => ?_) (fun hc => absurd hc (by decide))
          show Go p e below s n0 _ _ _ (T0.setTop (mkF m 67 #[.val (.ref a1), .val (.ref a2), .val (.ref a3), .val (.int (0 : Int32)), .val (.int (2 : Int32))] []))
          refine Go.st (fun _ => XS.iloadN X0.here C.hx rfl (hb C.hby d2_67) rfl) ?_
          show Go p e below s n0 _ _ _ (T0.setTop (mkF m 68 #[.val (.ref a1), .val (.ref a2), .val (.ref a3), .val (.int (0 : Int32)), .val (.int (2 : Int32))] [(.int (0 : Int32))]))
          exact Go.retZ C X0 (by decide) d2_68 ⟨by simp [eqmF, eqL, hc52_154, hc52_159], rfl⟩ (by decide) (by decide)
        · show Go p e below s n0 _ _ _ (T0.setTop (mkF m 55 #[.val (.ref a1), .val (.ref a2), .val (.ref a3), .val (.int (1 : Int32)), .val (.int (1 : Int32))] []))
          refine Go.st (fun _ => XS.iconst X0.here C.hx rfl (hb C.hby d2_55)) ?_
          show Go p e below s n0 _ _ _ (T0.setTop (mkF m 56 #[.val (.ref a1), .val (.ref a2), .val (.ref a3), .val (.int (1 : Int32)), .val (.int (1 : Int32))] [(.int (1 : Int32))]))
          refine Go.st (fun _ => XS.goto X0.here C.hx rfl (pc0 := 56) (pc' := 60) rfl (hb C.hby d2_56) (by decide) (by decide)) ?_
          show Go p e below s n0 _ _ _ (T0.setTop (mkF m 60 #[.val (.ref a1), .val (.ref a2), .val (.ref a3), .val (.int (1 : Int32)), .val (.int (1 : Int32))] [(.int (1 : Int32))]))
          refine Go.st (fun _ => XS.istoreN X0.here C.hx rfl (hb C.hby d2_60) rfl (l' := #[.val (.ref a1), .val (.ref a2), .val (.ref a3), .val (.int (1 : Int32)), .val (.int (1 : Int32))]) rfl) ?_
          show Go p e below s n0 _ _ _ (T0.setTop (mkF m 61 #[.val (.ref a1), .val (.ref a2), .val (.ref a3), .val (.int (1 : Int32)), .val (.int (1 : Int32))] []))
          refine Go.st (fun _ => XS.iinc X0.here C.hx rfl (hb C.hby d2_61) rfl (l' := #[.val (.ref a1), .val (.ref a2), .val (.ref a3), .val (.int (1 : Int32)), .val (.int (2 : Int32))]) rfl) ?_
          show Go p e below s n0 _ _ _ (T0.setTop (mkF m 64 #[.val (.ref a1), .val (.ref a2), .val (.ref a3), .val (.int (1 : Int32)), .val (.int (2 : Int32))] []))
          refine Go.st (fun _ => XS.goto X0.here C.hx rfl (pc0 := 64) (pc' := 23) rfl (hb C.hby d2_64) (by decide) (by decide)) ?_
          show Go p e below s n0 _ _ _ (T0.setTop (mkF m 23 #[.val (.ref a1), .val (.ref a2), .val (.ref a3), .val (.int (1 : Int32)), .val (.int (2 : Int32))] []))
          refine Go.st (fun _ => XS.iload X0.here C.hx rfl (hb C.hby d2_23) rfl) ?_
          show Go p e below s n0 _ _ _ (T0.setTop (mkF m 25 #[.val (.ref a1), .val (.ref a2), .val (.ref a3), .val (.int (1 : Int32)), .val (.int (2 : Int32))] [(.int (2 : Int32))]))
          refine Go.st (fun _ => XS.aloadN X0.here C.hx rfl (hb C.hby d2_25) rfl rfl) ?_
          show Go p e below s n0 _ _ _ (T0.setTop (mkF m 26 #[.val (.ref a1), .val (.ref a2), .val (.ref a3), .val (.int (1 : Int32)), .val (.int (2 : Int32))] [(.ref a3), (.int (2 : Int32))]))
          refine Go.alen C X0 A3 (z := (2 : Int32)) rfl d2_26 ?_
          show Go p e below s n0 _ _ _ (T0.setTop (mkF m 27 #[.val (.ref a1), .val (.ref a2), .val (.ref a3), .val (.int (1 : Int32)), .val (.int (2 : Int32))] [(.int (2 : Int32)), (.int (2 : Int32))]))
          refine Go.icmp_ge C X0 (pc' := 67) d2_27 (by decide) (by decide) (fun _ => ?_) (fun hc => absurd hc (by decide))
          show Go p e below s n0 _ _ _ (T0.setTop (mkF m 67 #[.val (.ref a1), .val (.ref a2), .val (.ref a3), .val (.int (1 : Int32)), .val (.int (2 : Int32))] []))
          refine Go.st (fun _ => XS.iloadN X0.here C.hx rfl (hb C.hby d2_67) rfl) ?_
          show Go p e below s n0 _ _ _ (T0.setTop (mkF m 68 #[.val (.ref a1), .val (.ref a2), .val (.ref a3), .val (.int (1 : Int32)), .val (.int (2 : Int32))] [(.int (1 : Int32))]))
          exact Go.retZ C X0 (by decide) d2_68 ⟨by simp [eqmF, eqL, hc52_154, hc52_159], rfl⟩ (by decide) (by decide)
    · obtain ⟨x0, x1, x2, e_xs⟩ := ll3 xs (by omega)
      obtain ⟨y0, y1, y2, e_ys⟩ := ll3 ys (by omega)
      obtain ⟨z0, z1, z2, e_zs⟩ := ll3 zs hk
      subst e_xs e_ys e_zs
      show Go p e below s n0 _ _ _ (T0.setTop (mkF m 0 #[.val (.ref a1), .val (.ref a2), .val (.ref a3), .unset, .unset] []))
      refine Go.st (fun _ => XS.aloadN X0.here C.hx rfl (hb C.hby d2_0) rfl rfl) ?_
      show Go p e below s n0 _ _ _ (T0.setTop (mkF m 1 #[.val (.ref a1), .val (.ref a2), .val (.ref a3), .unset, .unset] [(.ref a1)]))
      refine Go.alen C X0 A1 (z := (3 : Int32)) rfl d2_1 ?_
      show Go p e below s n0 _ _ _ (T0.setTop (mkF m 2 #[.val (.ref a1), .val (.ref a2), .val (.ref a3), .unset, .unset] [(.int (3 : Int32))]))
      refine Go.st (fun _ => XS.aloadN X0.here C.hx rfl (hb C.hby d2_2) rfl rfl) ?_
      show Go p e below s n0 _ _ _ (T0.setTop (mkF m 3 #[.val (.ref a1), .val (.ref a2), .val (.ref a3), .unset, .unset] [(.ref a2), (.int (3 : Int32))]))
      refine Go.alen C X0 A2 (z := (3 : Int32)) rfl d2_3 ?_
      show Go p e below s n0 _ _ _ (T0.setTop (mkF m 4 #[.val (.ref a1), .val (.ref a2), .val (.ref a3), .unset, .unset] [(.int (3 : Int32)), (.int (3 : Int32))]))
      refine Go.icmp_ne C X0 (pc' := 18) d2_4 (by decide) (by decide) (fun hc => absurd hc (by decide)) (fun _ => ?_)
      show Go p e below s n0 _ _ _ (T0.setTop (mkF m 7 #[.val (.ref a1), .val (.ref a2), .val (.ref a3), .unset, .unset] []))
      refine Go.st (fun _ => XS.aloadN X0.here C.hx rfl (hb C.hby d2_7) rfl rfl) ?_
      show Go p e below s n0 _ _ _ (T0.setTop (mkF m 8 #[.val (.ref a1), .val (.ref a2), .val (.ref a3), .unset, .unset] [(.ref a1)]))
      refine Go.alen C X0 A1 (z := (3 : Int32)) rfl d2_8 ?_
      show Go p e below s n0 _ _ _ (T0.setTop (mkF m 9 #[.val (.ref a1), .val (.ref a2), .val (.ref a3), .unset, .unset] [(.int (3 : Int32))]))
      refine Go.st (fun _ => XS.aloadN X0.here C.hx rfl (hb C.hby d2_9) rfl rfl) ?_
      show Go p e below s n0 _ _ _ (T0.setTop (mkF m 10 #[.val (.ref a1), .val (.ref a2), .val (.ref a3), .unset, .unset] [(.ref a3), (.int (3 : Int32))]))
      refine Go.alen C X0 A3 (z := (3 : Int32)) rfl d2_10 ?_
      show Go p e below s n0 _ _ _ (T0.setTop (mkF m 11 #[.val (.ref a1), .val (.ref a2), .val (.ref a3), .unset, .unset] [(.int (3 : Int32)), (.int (3 : Int32))]))
      refine Go.icmp_ne C X0 (pc' := 18) d2_11 (by decide) (by decide) (fun hc => absurd hc (by decide)) (fun _ => ?_)
      show Go p e below s n0 _ _ _ (T0.setTop (mkF m 14 #[.val (.ref a1), .val (.ref a2), .val (.ref a3), .unset, .unset] []))
      refine Go.st (fun _ => XS.iconst X0.here C.hx rfl (hb C.hby d2_14)) ?_
      show Go p e below s n0 _ _ _ (T0.setTop (mkF m 15 #[.val (.ref a1), .val (.ref a2), .val (.ref a3), .unset, .unset] [(.int (1 : Int32))]))
      refine Go.st (fun _ => XS.goto X0.here C.hx rfl (pc0 := 15) (pc' := 19) rfl (hb C.hby d2_15) (by decide) (by decide)) ?_
      show Go p e below s n0 _ _ _ (T0.setTop (mkF m 19 #[.val (.ref a1), .val (.ref a2), .val (.ref a3), .unset, .unset] [(.int (1 : Int32))]))
      refine Go.st (fun _ => XS.istoreN X0.here C.hx rfl (hb C.hby d2_19) rfl (l' := #[.val (.ref a1), .val (.ref a2), .val (.ref a3), .val (.int (1 : Int32)), .unset]) rfl) ?_
      show Go p e below s n0 _ _ _ (T0.setTop (mkF m 20 #[.val (.ref a1), .val (.ref a2), .val (.ref a3), .val (.int (1 : Int32)), .unset] []))
      refine Go.st (fun _ => XS.iconst X0.here C.hx rfl (hb C.hby d2_20)) ?_
      show Go p e below s n0 _ _ _ (T0.setTop (mkF m 21 #[.val (.ref a1), .val (.ref a2), .val (.ref a3), .val (.int (1 : Int32)), .unset] [(.int (0 : Int32))]))
      refine Go.st (fun _ => XS.istore X0.here C.hx rfl (hb C.hby d2_21) rfl (l' := #[.val (.ref a1), .val (.ref a2), .val (.ref a3), .val (.int (1 : Int32)), .val (.int (0 : Int32))]) rfl) ?_
      show Go p e below s n0 _ _ _ (T0.setTop (mkF m 23 #[.val (.ref a1), .val (.ref a2), .val (.ref a3), .val (.int (1 : Int32)), .val (.int (0 : Int32))] []))
      refine Go.st (fun _ => XS.iload X0.here C.hx rfl (hb C.hby d2_23) rfl) ?_
      show Go p e below s n0 _ _ _ (T0.setTop (mkF m 25 #[.val (.ref a1), .val (.ref a2), .val (.ref a3), .val (.int (1 : Int32)), .val (.int (0 : Int32))] [(.int (0 : Int32))]))
      refine Go.st (fun _ => XS.aloadN X0.here C.hx rfl (hb C.hby d2_25) rfl rfl) ?_
      show Go p e below s n0 _ _ _ (T0.setTop (mkF m 26 #[.val (.ref a1), .val (.ref a2), .val (.ref a3), .val (.int (1 : Int32)), .val (.int (0 : Int32))] [(.ref a3), (.int (0 : Int32))]))
      refine Go.alen C X0 A3 (z := (3 : Int32)) rfl d2_26 ?_
      show Go p e below s n0 _ _ _ (T0.setTop (mkF m 27 #[.val (.ref a1), .val (.ref a2), .val (.ref a3), .val (.int (1 : Int32)), .val (.int (0 : Int32))] [(.int (3 : Int32)), (.int (0 : Int32))]))
      refine Go.icmp_ge C X0 (pc' := 67) d2_27 (by decide) (by decide) (fun hc => absurd hc (by decide)) (fun _ => ?_)
      show Go p e below s n0 _ _ _ (T0.setTop (mkF m 30 #[.val (.ref a1), .val (.ref a2), .val (.ref a3), .val (.int (1 : Int32)), .val (.int (0 : Int32))] []))
      refine Go.st (fun _ => XS.iloadN X0.here C.hx rfl (hb C.hby d2_30) rfl) ?_
      show Go p e below s n0 _ _ _ (T0.setTop (mkF m 31 #[.val (.ref a1), .val (.ref a2), .val (.ref a3), .val (.int (1 : Int32)), .val (.int (0 : Int32))] [(.int (1 : Int32))]))
      refine Go.if_eq C X0 (pc' := 67) d2_31 (by decide) (by decide) (fun hc => absurd hc (by decide)) (fun _ => ?_)
      show Go p e below s n0 _ _ _ (T0.setTop (mkF m 34 #[.val (.ref a1), .val (.ref a2), .val (.ref a3), .val (.int (1 : Int32)), .val (.int (0 : Int32))] []))
      refine Go.st (fun _ => XS.aloadN X0.here C.hx rfl (hb C.hby d2_34) rfl rfl) ?_
      show Go p e below s n0 _ _ _ (T0.setTop (mkF m 35 #[.val (.ref a1), .val (.ref a2), .val (.ref a3), .val (.int (1 : Int32)), .val (.int (0 : Int32))] [(.ref a1)]))
      refine Go.st (fun _ => XS.iload X0.here C.hx rfl (hb C.hby d2_35) rfl) ?_
      show Go p e below s n0 _ _ _ (T0.setTop (mkF m 37 #[.val (.ref a1), .val (.ref a2), .val (.ref a3), .val (.int (1 : Int32)), .val (.int (0 : Int32))] [(.int (0 : Int32)), (.ref a1)]))
      refine Go.baload C X0 A1 (by decide) rfl d2_37 ?_
      show Go p e below s n0 _ _ _ (T0.setTop (mkF m 38 #[.val (.ref a1), .val (.ref a2), .val (.ref a3), .val (.int (1 : Int32)), .val (.int (0 : Int32))] [(.int x0)]))
      refine Go.st (fun _ => XS.aloadN X0.here C.hx rfl (hb C.hby d2_38) rfl rfl) ?_
      show Go p e below s n0 _ _ _ (T0.setTop (mkF m 39 #[.val (.ref a1), .val (.ref a2), .val (.ref a3), .val (.int (1 : Int32)), .val (.int (0 : Int32))] [(.ref a3), (.int x0)]))
      refine Go.st (fun _ => XS.iload X0.here C.hx rfl (hb C.hby d2_39) rfl) ?_
      show Go p e below s n0 _ _ _ (T0.setTop (mkF m 41 #[.val (.ref a1), .val (.ref a2), .val (.ref a3), .val (.int (1 : Int32)), .val (.int (0 : Int32))] [(.int (0 : Int32)), (.ref a3), (.int x0)]))
      refine Go.baload C X0 A3 (by decide) rfl d2_41 ?_
      show Go p e below s n0 _ _ _ (T0.setTop (mkF m 42 #[.val (.ref a1), .val (.ref a2), .val (.ref a3), .val (.int (1 : Int32)), .val (.int (0 : Int32))] [(.int z0), (.int x0)]))
      refine Go.st (fun _ => XS.iand X0.here C.hx rfl (hb C.hby d2_42) rfl) ?_
      show Go p e below s n0 _ _ _ (T0.setTop (mkF m 43 #[.val (.ref a1), .val (.ref a2), .val (.ref a3), .val (.int (1 : Int32)), .val (.int (0 : Int32))] [(.int (x0 &&& z0))]))
      refine Go.st (fun _ => XS.aloadN X0.here C.hx rfl (hb C.hby d2_43) rfl rfl) ?_
      show Go p e below s n0 _ _ _ (T0.setTop (mkF m 44 #[.val (.ref a1), .val (.ref a2), .val (.ref a3), .val (.int (1 : Int32)), .val (.int (0 : Int32))] [(.ref a2), (.int (x0 &&& z0))]))
      refine Go.st (fun _ => XS.iload X0.here C.hx rfl (hb C.hby d2_44) rfl) ?_
      show Go p e below s n0 _ _ _ (T0.setTop (mkF m 46 #[.val (.ref a1), .val (.ref a2), .val (.ref a3), .val (.int (1 : Int32)), .val (.int (0 : Int32))] [(.int (0 : Int32)), (.ref a2), (.int (x0 &&& z0))]))
      refine Go.baload C X0 A2 (by decide) rfl d2_46 ?_
      show Go p e below s n0 _ _ _ (T0.setTop (mkF m 47 #[.val (.ref a1), .val (.ref a2), .val (.ref a3), .val (.int (1 : Int32)), .val (.int (0 : Int32))] [(.int y0), (.int (x0 &&& z0))]))
      refine Go.st (fun _ => XS.aloadN X0.here C.hx rfl (hb C.hby d2_47) rfl rfl) ?_
      show Go p e below s n0 _ _ _ (T0.setTop (mkF m 48 #[.val (.ref a1), .val (.ref a2), .val (.ref a3), .val (.int (1 : Int32)), .val (.int (0 : Int32))] [(.ref a3), (.int y0), (.int (x0 &&& z0))]))
      refine Go.st (fun _ => XS.iload X0.here C.hx rfl (hb C.hby d2_48) rfl) ?_
      show Go p e below s n0 _ _ _ (T0.setTop (mkF m 50 #[.val (.ref a1), .val (.ref a2), .val (.ref a3), .val (.int (1 : Int32)), .val (.int (0 : Int32))] [(.int (0 : Int32)), (.ref a3), (.int y0), (.int (x0 &&& z0))]))
      refine Go.baload C X0 A3 (by decide) rfl d2_50 ?_
      show Go p e below s n0 _ _ _ (T0.setTop (mkF m 51 #[.val (.ref a1), .val (.ref a2), .val (.ref a3), .val (.int (1 : Int32)), .val (.int (0 : Int32))] [(.int z0), (.int y0), (.int (x0 &&& z0))]))
      refine Go.st (fun _ => XS.iand X0.here C.hx rfl (hb C.hby d2_51) rfl) ?_
      show Go p e below s n0 _ _ _ (T0.setTop (mkF m 52 #[.val (.ref a1), .val (.ref a2), .val (.ref a3), .val (.int (1 : Int32)), .val (.int (0 : Int32))] [(.int (y0 &&& z0)), (.int (x0 &&& z0))]))
      refine Go.icmp_ne C X0 (pc' := 59) d2_52 (by decide) (by decide) (fun hc52_166 => ?_) (fun hc52_166 => ?_)
      · show Go p e below s n0 _ _ _ (T0.setTop (mkF m 59 #[.val (.ref a1), .val (.ref a2), .val (.ref a3), .val (.int (1 : Int32)), .val (.int (0 : Int32))] []))
        refine Go.st (fun _ => XS.iconst X0.here C.hx rfl (hb C.hby d2_59)) ?_
        show Go p e below s n0 _ _ _ (T0.setTop (mkF m 60 #[.val (.ref a1), .val (.ref a2), .val (.ref a3), .val (.int (1 : Int32)), .val (.int (0 : Int32))] [(.int (0 : Int32))]))
        refine Go.st (fun _ => XS.istoreN X0.here C.hx rfl (hb C.hby d2_60) rfl (l' := #[.val (.ref a1), .val (.ref a2), .val (.ref a3), .val (.int (0 : Int32)), .val (.int (0 : Int32))]) rfl) ?_
        show Go p e below s n0 _ _ _ (T0.setTop (mkF m 61 #[.val (.ref a1), .val (.ref a2), .val (.ref a3), .val (.int (0 : Int32)), .val (.int (0 : Int32))] []))
        refine Go.st (fun _ => XS.iinc X0.here C.hx rfl (hb C.hby d2_61) rfl (l' := #[.val (.ref a1), .val (.ref a2), .val (.ref a3), .val (.int (0 : Int32)), .val (.int (1 : Int32))]) rfl) ?_
        show Go p e below s n0 _ _ _ (T0.setTop (mkF m 64 #[.val (.ref a1), .val (.ref a2), .val (.ref a3), .val (.int (0 : Int32)), .val (.int (1 : Int32))] []))
        refine Go.st (fun _ => XS.goto X0.here C.hx rfl (pc0 := 64) (pc' := 23) rfl (hb C.hby d2_64) (by decide) (by decide)) ?_
        show Go p e below s n0 _ _ _ (T0.setTop (mkF m 23 #[.val (.ref a1), .val (.ref a2), .val (.ref a3), .val (.int (0 : Int32)), .val (.int (1 : Int32))] []))
        refine Go.st (fun _ => XS.iload X0.here C.hx rfl (hb C.hby d2_23) rfl) ?_
        show Go p e below s n0 _ _ _ (T0.setTop (mkF m 25 #[.val (.ref a1), .val (.ref a2), .val (.ref a3), .val (.int (0 : Int32)), .val (.int (1 : Int32))] [(.int (1 : Int32))]))
        refine Go.st (fun _ => XS.aloadN X0.here C.hx rfl (hb C.hby d2_25) rfl rfl) ?_
        show Go p e below s n0 _ _ _ (T0.setTop (mkF m 26 #[.val (.ref a1), .val (.ref a2), .val (.ref a3), .val (.int (0 : Int32)), .val (.int (1 : Int32))] [(.ref a3), (.int (1 : Int32))]))
        refine Go.alen C X0 A3 (z := (3 : Int32)) rfl d2_26 ?_
        show Go p e below s n0 _ _ _ (T0.setTop (mkF m 27 #[.val (.ref a1), .val (.ref a2), .val (.ref a3), .val (.int (0 : Int32)), .val (.int (1 : Int32))] [(.int (3 : Int32)), (.int (1 : Int32))]))
        refine Go.icmp_ge C X0 (pc' := 67) d2_27 (by decide) (by decide) (fun hc => absurd hc (by decide)) (fun _ => ?_)
        show Go p e below s n0 _ _ _ (T0.setTop (mkF m 30 #[.val (.ref a1), .val (.ref a2), .val (.ref a3), .val (.int (0 : Int32)), .val (.int (1 : Int32))] []))
        refine Go.st (fun _ => XS.iloadN X0.here C.hx rfl (hb C.hby d2_30) rfl) ?_
        show Go p e below s n0 _ _ _ (T0.setTop (mkF m 31 #[.val (.ref a1), .val (.ref a2), .val (.ref a3), .val (.int (0 : Int32)), .val (.int (1 : Int32))] [(.int (0 : Int32))]))
        refine Go.if_eq C X0 (pc' := 67) d2_31 (by decide) (by decide) (fun _ => ?_) (fun hc => absurd hc (by decide))
        show Go p e below s n0 _ _ _ (T0.setTop (mkF m 67 #[.val (.ref a1), .val (.ref a2), .val (.ref a3), .val (.int (0 : Int32)), .val (.int (1 : Int32))] []))
        refine Go.st (fun _ => XS.iloadN X0.here C.hx rfl (hb C.hby d2_67) rfl) ?_
        show Go p e below s n0 _ _ _ (T0.setTop (mkF m 68 #[.val (.ref a1), .val (.ref a2), .val (.ref a3), .val (.int (0 : Int32)), .val (.int (1 : Int32))] [(.int (0 : Int32))]))
        exact Go.retZ C X0 (by decide) d2_68 ⟨by simp [eqmF, eqL, hc52_166], rfl⟩ (by decide) (by decide)
      · show Go p e below s n0 _ _ _ (T0.setTop (mkF m 55 #[.val (.ref a1), .val (.ref a2), .val (.ref a3), .val (.int (1 : Int32)), .val (.int (0 : Int32))] []))
        refine Go.st (fun _ => XS.iconst X0.here C.hx rfl (hb C.hby d2_55)) ?_
        show Go p e below s n0 _ _ _ (T0.setTop (mkF m 56 #[.val (.ref a1), .val (.ref a2), .val (.ref a3), .val (.int (1 : Int32)), .val (.int (0 : Int32))] [(.int (1 : Int32))]))
        refine Go.st (fun _ => XS.goto X0.here C.hx rfl (pc0 := 56) (pc' := 60) rfl (hb C.hby d2_56) (by decide) (by decide)) ?_
        show Go p e below s n0 _ _ _ (T0.setTop (mkF m 60 #[.val (.ref a1), .val (.ref a2), .val (.ref a3), .val (.int (1 : Int32)), .val (.int (0 : Int32))] [(.int (1 : Int32))]))
        refine Go.st (fun _ => XS.istoreN X0.here C.hx rfl (hb C.hby d2_60) rfl (l' := #[.val (.ref a1), .val (.ref a2), .val (.ref a3), .val (.int (1 : Int32)), .val (.int (0 : Int32))]) rfl) ?_
        show Go p e below s n0 _ _ _ (T0.setTop (mkF m 61 #[.val (.ref a1), .val (.ref a2), .val (.ref a3), .val (.int (1 : Int32)), .val (.int (0 : Int32))] []))
        refine Go.st (fun _ => XS.iinc X0.here C.hx rfl (hb C.hby d2_61) rfl (l' := #[.val (.ref a1), .val (.ref a2), .val (.ref a3), .val (.int (1 : Int32)), .val (.int (1 : Int32))]) rfl) ?_
        show Go p e below s n0 _ _ _ (T0.setTop (mkF m 64 #[.val (.ref a1), .val (.ref a2), .val (.ref a3), .val (.int (1 : Int32)), .val (.int (1 : Int32))] []))
        refine Go.st (fun _ => XS.goto X0.here C.hx rfl (pc0 := 64) (pc' := 23) rfl (hb C.hby d2_64) (by decide) (by decide)) ?_
        show Go p e below s n0 _ _ _ (T0.setTop (mkF m 23 #[.val (.ref a1), .val (.ref a2), .val (.ref a3), .val (.int (1 : Int32)), .val (.int (1 : Int32))] []))
        refine Go.st (fun _ => XS.iload X0.here C.hx rfl (hb C.hby d2_23) rfl) ?_
        show Go p e below s n0 _ _ _ (T0.setTop (mkF m 25 #[.val (.ref a1), .val (.ref a2), .val (.ref a3), .val (.int (1 : Int32)), .val (.int (1 : Int32))] [(.int (1 : Int32))]))
        refine Go.st (fun _ => XS.aloadN X0.here C.hx rfl (hb C.hby d2_25) rfl rfl) ?_
        show Go p e below s n0 _ _ _ (T0.setTop (mkF m 26 #[.val (.ref a1), .val (.ref a2), .val (.ref a3), .val (.int (1 : Int32)), .val (.int (1 : Int32))] [(.ref a3), (.int (1 : Int32))]))
        refine Go.alen C X0 A3 (z := (3 : Int32)) rfl d2_26 ?_
        show Go p e below s n0 _ _ _ (T0.setTop (mkF m 27 #[.val (.ref a1), .val (.ref a2), .val (.ref a3), .val (.int (1 : Int32)), .val (.int (1 : Int32))] [(.int (3 : Int32)), (.int (1 : Int32))]))
        refine Go.icmp_ge C X0 (pc' := 67) d2_27 (by decide) (by decide) (fun hc => absurd hc (by decide)) (fun _ => ?_)
        show Go p e below s n0 _ _ _ (T0.setTop (mkF m 30 #[.val (.ref a1), .val (.ref a2), .val (.ref a3), .val (.int (1 : Int32)), .val (.int (1 : Int32))] []))
        refine Go.st (fun _ => XS.iloadN X0.here C.hx rfl (hb C.hby d2_30) rfl) ?_
        show Go p e below s n0 _ _ _ (T0.setTop (mkF m 31 #[.val (.ref a1), .val (.ref a2), .val (.ref a3), .val (.int (1 : Int32)), .val (.int (1 : Int32))] [(.int (1 : Int32))]))
        refine Go.if_eq C X0 (pc' := 67) d2_31 (by decide) (by decide) (fun hc => absurd hc (by decide)) (fun _ => ?_)
        show Go p e below s n0 _ _ _ (T0.setTop (mkF m 34 #[.val (.ref a1), .val (.ref a2), .val (.ref a3), .val (.int (1 : Int32)), .val (.int (1 : Int32))] []))
        refine Go.st (fun _ => XS.aloadN X0.here C.hx rfl (hb C.hby d2_34) rfl rfl) ?_
        show Go p e below s n0 _ _ _ (T0.setTop (mkF m 35 #[.val (.ref a1), .val (.ref a2), .val (.ref a3), .val (.int (1 : Int32)), .val (.int (1 : Int32))] [(.ref a1)]))
        refine Go.st (fun _ => XS.iload X0.here C.hx rfl (hb C.hby d2_35) rfl) ?_
        show Go p e below s n0 _ _ _ (T0.setTop (mkF m 37 #[.val (.ref a1), .val (.ref a2), .val (.ref a3), .val (.int (1 : Int32)), .val (.int (1 : Int32))] [(.int (1 : Int32)), (.ref a1)]))
        refine Go.baload C X0 A1 (by decide) rfl d2_37 ?_
        show Go p e below s n0 _ _ _ (T0.setTop (mkF m 38 #[.val (.ref a1), .val (.ref a2), .val (.ref a3), .val (.int (1 : Int32)), .val (.int (1 : Int32))] [(.int x1)]))
        refine Go.st (fun _ => XS.aloadN X0.here C.hx rfl (hb C.hby d2_38) rfl rfl) ?_
        show Go p e below s n0 _ _ _ (T0.setTop (mkF m 39 #[.val (.ref a1), .val (.ref a2), .val (.ref a3), .val (.int (1 : Int32)), .val (.int (1 : Int32))] [(.ref a3), (.int x1)]))
        refine Go.st (fun _ => XS.iload X0.here C.hx rfl (hb C.hby d2_39) rfl) ?_
        show Go p e below s n0 _ _ _ (T0.setTop (mkF m 41 #[.val (.ref a1), .val (.ref a2), .val (.ref a3), .val (.int (1 : Int32)), .val (.int (1 : Int32))] [(.int (1 : Int32)), (.ref a3), (.int x1)]))
        refine Go.baload C X0 A3 (by decide) rfl d2_41 ?_
        show Go p e below s n0 _ _ _ (T0.setTop (mkF m 42 #[.val (.ref a1), .val (.ref a2), .val (.ref a3), .val (.int (1 : Int32)), .val (.int (1 : Int32))] [(.int z1), (.int x1)]))
        refine Go.st (fun _ => XS.iand X0.here C.hx rfl (hb C.hby d2_42) rfl) ?_
        show Go p e below s n0 _ _ _ (T0.setTop (mkF m 43 #[.val (.ref a1), .val (.ref a2), .val (.ref a3), .val (.int (1 : Int32)), .val (.int (1 : Int32))] [(.int (x1 &&& z1))]))
        refine Go.st (fun _ => XS.aloadN X0.here C.hx rfl (hb C.hby d2_43) rfl rfl) ?_
        show Go p e below s n0 _ _ _ (T0.setTop (mkF m 44 #[.val (.ref a1), .val (.ref a2), .val (.ref a3), .val (.int (1 : Int32)), .val (.int (1 : Int32))] [(.ref a2), (.int (x1 &&& z1))]))
        refine Go.st (fun _ => XS.iload X0.here C.hx rfl (hb C.hby d2_44) rfl) ?_
        show Go p e below s n0 _ _ _ (T0.setTop (mkF m 46 #[.val (.ref a1), .val (.ref a2), .val (.ref a3), .val (.int (1 : Int32)), .val (.int (1 : Int32))] [(.int (1 : Int32)), (.ref a2), (.int (x1 &&& z1))]))
        refine Go.baload C X0 A2 (by decide) rfl d2_46 ?_
        show Go p e below s n0 _ _ _ (T0.setTop (mkF m 47 #[.val (.ref a1), .val (.ref a2), .val (.ref a3), .val (.int (1 : Int32)), .val (.int (1 : Int32))] [(.int y1), (.int (x1 &&& z1))]))
        refine Go.st (fun _ => XS.aloadN X0.here C.hx rfl (hb C.hby d2_47) rfl rfl) ?_
        show Go p e below s n0 _ _ _ (T0.setTop (mkF m 48 #[.val (.ref a1), .val (.ref a2), .val (.ref a3), .val (.int (1 : Int32)), .val (.int (1 : Int32))] [(.ref a3), (.int y1), (.int (x1 &&& z1))]))
        refine Go.st (fun _ => XS.iload X0.here C.hx rfl (hb C.hby d2_48) rfl) ?_
        show Go p e below s n0 _ _ _ (T0.setTop (mkF m 50 #[.val (.ref a1), .val (.ref a2), .val (.ref a3), .val (.int (1 : Int32)), .val (.int (1 : Int32))] [(.int (1 : Int32)), (.ref a3), (.int y1), (.int (x1 &&& z1))]))
        refine Go.baload C X0 A3 (by decide) rfl d2_50 ?_
        show Go p e below s n0 _ _ _ (T0.setTop (mkF m 51 #[.val (.ref a1), .val (.ref a2), .val (.ref a3), .val (.int (1 : Int32)), .val (.int (1 : Int32))] [(.int z1), (.int y1), (.int (x1 &&& z1))]))
        refine Go.st (fun _ => XS.iand X0.here C.hx rfl (hb C.hby d2_51) rfl) ?_
        show Go p e below s n0 _ _ _ (T0.setTop (mkF m 52 #[.val (.ref a1), .val (.ref a2), .val (.ref a3), .val (.int (1 : Int32)), .val (.int (1 : Int32))] [(.int (y1 &&& z1)), (.int (x1 &&& z1))]))
        refine Go.icmp_ne C X0 (pc' := 59) d2_52 (by decide) (by decide) (fun hc52_171 => ?_) (fun hc52_171 => ?_)
        · show Go p e below s n0 _ _ _ (T0.setTop (mkF m 59 #[.val (.ref a1), .val (.ref a2), .val (.ref a3), .val (.int (1 : Int32)), .val (.int (1 : Int32))] []))
          refine Go.st (fun _ => XS.iconst X0.here C.hx rfl (hb C.hby d2_59)) ?_
          show Go p e below s n0 _ _ _ (T0.setTop (mkF m 60 #[.val (.ref a1), .val (.ref a2), .val (.ref a3), .val (.int (1 : Int32)), .val (.int (1 : Int32))] [(.int (0 : Int32))]))
          refine Go.st (fun _ => XS.istoreN X0.here C.hx rfl (hb C.hby d2_60) rfl (l' := #[.val (.ref a1), .val (.ref a2), .val (.ref a3), .val (.int (0 : Int32)), .val (.int (1 : Int32))]) rfl) ?_
          show Go p e below s n0 _ _ _ (T0.setTop (mkF m 61 #[.val (.ref a1), .val (.ref a2), .val (.ref a3), .val (.int (0 : Int32)), .val (.int (1 : Int32))] []))
          refine Go.st (fun _ => XS.iinc X0.here C.hx rfl (hb C.hby d2_61) rfl (l' := #[.val (.ref a1), .val (.ref a2), .val (.ref a3), .val (.int (0 : Int32)), .val (.int (2 : Int32))]) rfl) ?_
          show Go p e below s n0 _ _ _ (T0.setTop (mkF m 64 #[.val (.ref a1), .val (.ref a2), .val (.ref a3), .val (.int (0 : Int32)), .val (.int (2 : Int32))] []))
          refine Go.st (fun _ => XS.goto X0.here C.hx rfl (pc0 := 64) (pc' := 23) rfl (hb C.hby d2_64) (by decide) (by decide)) ?_
          show Go p e below s n0 _ _ _ (T0.setTop (mkF m 23 #[.val (.ref a1), .val (.ref a2), .val (.ref a3), .val (.int (0 : Int32)), .val (.int (2 : Int32))] []))
          refine Go.st (fun _ => XS.iload X0.here C.hx rfl (hb C.hby d2_23) rfl) ?_
          show Go p e below s n0 _ _ _ (T0.setTop (mkF m 25 #[.val (.ref a1), .val (.ref a2), .val (.ref a3), .val (.int (0 : Int32)), .val (.int (2 : Int32))] [(.int (2 : Int32))]))
          refine Go.st (fun _ => XS.aloadN X0.here C.hx rfl (hb C.hby d2_25) rfl rfl) ?_
          show Go p e below s n0 _ _ _ (T0.setTop (mkF m 26 #[.val (.ref a1), .val (.ref a2), .val (.ref a3), .val (.int (0 : Int32)), .val (.int (2 : Int32))] [(.ref a3), (.int (2 : Int32))]))
          refine Go.alen C X0 A3 (z := (3 : Int32)) rfl d2_26 ?_
          show Go p e below s n0 _ _ _ (T0.setTop (mkF m 27 #[.val (.ref a1), .val (.ref a2), .val (.ref a3), .val (.int (0 : Int32)), .val (.int (2 : Int32))] [(.int (3 : Int32)), (.int (2 : Int32))]))
          refine Go.icmp_ge C X0 (pc' := 67) d2_27 (by decide) (by decide) (fun hc => absurd hc (by decide)) (fun _ => ?_)
          show Go p e below s n0 _ _ _ (T0.setTop (mkF m 30 #[.val (.ref a1), .val (.ref a2), .val (.ref a3), .val (.int (0 : Int32)), .val (.int (2 : Int32))] []))
          refine Go.st (fun _ => XS.iloadN X0.here C.hx rfl (hb C.hby d2_30) rfl) ?_
          show Go p e below s n0 _ _ _ (T0.setTop (mkF m 31 #[.val (.ref a1), .val (.ref a2), .val (.ref a3), .val (.int (0 : Int32)), .val (.int (2 : Int32))] [(.int (0 : Int32))]))
          refine Go.if_eq C X0 (pc' := 67) d2_31 (by decide) (by decide) (fun _ => ?_) (fun hc => absurd hc (by decide))
          show Go p e below s n0 _ _ _ (T0.setTop (mkF m 67 #[.val (.ref a1), .val (.ref a2), .val (.ref a3), .val (.int (0 : Int32)), .val (.int (2 : Int32))] []))
          refine Go.st (fun _ => XS.iloadN X0.here C.hx rfl (hb C.hby d2_67) rfl) ?_
          show Go p e below s n0 _ _ _ (T0.setTop (mkF m 68 #[.val (.ref a1), .val (.ref a2), .val (.ref a3), .val (.int (0 : Int32)), .val (.int (2 : Int32))] [(.int (0 : Int32))]))
          exact Go.retZ C X0 (by decide) d2_68 ⟨by simp [eqmF, eqL, hc52_166, hc52_171], rfl⟩ (by decide) (by decide)
        · show Go p e below s n0 _ _ _ (T0.setTop (mkF m 55 #[.val (.ref a1), .val (.ref a2), .val (.ref a3), .val (.int (1 : Int32)), .val (.int (1 : Int32))] []))
          refine Go.st (fun _ => XS.iconst X0.here C.hx rfl (hb C.hby d2_55)) ?_
          show Go p e below s n0 _ _ _ (T0.setTop (mkF m 56 #[.val (.ref a1), .val (.ref a2), .val (.ref a3), .val (.int (1 : Int32)), .val (.int (1 : Int32))] [(.int (1 : Int32))]))
          refine Go.st (fun _ => XS.goto X0.here C.hx rfl (pc0 := 56) (pc' := 60) rfl (hb C.hby d2_56) (by decide) (by decide)) ?_
          show Go p e below s n0 _ _ _ (T0.setTop (mkF m 60 #[.val (.ref a1), .val (.ref a2), .val (.ref a3), .val (.int (1 : Int32)), .val (.int (1 : Int32))] [(.int (1 : Int32))]))
          refine Go.st (fun _ => XS.istoreN X0.here C.hx rfl (hb C.hby d2_60) rfl (l' := #[.val (.ref a1), .val (.ref a2), .val (.ref a3), .val (.int (1 : Int32)), .val (.int (1 : Int32))]) rfl) ?_
          show Go p e below s n0 _ _ _ (T0.setTop (mkF m 61 #[.val (.ref a1), .val (.ref a2), .val (.ref a3), .val (.int (1 : Int32)), .val (.int (1 : Int32))] []))
          refine Go.st (fun _ => XS.iinc X0.here C.hx rfl (hb C.hby d2_61) rfl (l' := #[.val (.ref a1), .val (.ref a2), .val (.ref a3), .val (.int (1 : Int32)), .val (.int (2 : Int32))]) rfl) ?_
          show Go p e below s n0 _ _ _ (T0.setTop (mkF m 64 #[.val (.ref a1), .val (.ref a2), .val (.ref a3), .val (.int (1 : Int32)), .val (.int (2 : Int32))] []))
          refine Go.st (fun _ => XS.goto X0.here C.hx rfl (pc0 := 64) (pc' := 23) rfl (hb C.hby d2_64) (by decide) (by decide)) ?_
          show Go p e below s n0 _ _ _ (T0.setTop (mkF m 23 #[.val (.ref a1), .val (.ref a2), .val (.ref a3), .val (.int (1 : Int32)), .val (.int (2 : Int32))] []))
          refine Go.st (fun _ => XS.iload X0.here C.hx rfl (hb C.hby d2_23) rfl) ?_
          show Go p e below s n0 _ _ _ (T0.setTop (mkF m 25 #[.val (.ref a1), .val (.ref a2), .val (.ref a3), .val (.int (1 : Int32)), .val (.int (2 : Int32))] [(.int (2 : Int32))]))
          refine Go.st (fun _ => XS.aloadN X0.here C.hx rfl (hb C.hby d2_25) rfl rfl) ?_
          show Go p e below s n0 _ _ _ (T0.setTop (mkF m 26 #[.val (.ref a1), .val (.ref a2), .val (.ref a3), .val (.int (1 : Int32)), .val (.int (2 : Int32))] [(.ref a3), (.int (2 : Int32))]))
          refine Go.alen C X0 A3 (z := (3 : Int32)) rfl d2_26 ?_
          show Go p e below s n0 _ _ _ (T0.setTop (mkF m 27 #[.val (.ref a1), .val (.ref a2), .val (.ref a3), .val (.int (1 : Int32)), .val (.int (2 : Int32))] [(.int (3 : Int32)), (.int (2 : Int32))]))
          refine Go.icmp_ge C X0 (pc' := 67) d2_27 (by decide) (by decide) (fun hc => absurd hc (by decide)) (fun _ => ?_)
          show Go p e below s n0 _ _ _ (T0.setTop (mkF m 30 #[.val (.ref a1), .val (.ref a2), .val (.ref a3), .val (.int (1 : Int32)), .val (.int (2 : Int32))] []))
          refine Go.st (fun _ => XS.iloadN X0.here C.hx rfl (hb C.hby d2_30) rfl) ?_
          show Go p e below s n0 _ _ _ (T0.setTop (mkF m 31 #[.val (.ref a1), .val (.ref a2), .val (.ref a3), .val (.int (1 : Int32)), .val (.int (2 : Int32))] [(.int (1 : Int32))]))
          refine Go.if_eq C X0 (pc' := 67) d2_31 (by decide) (by decide) (fun hc => absurd hc (by decide)) (fun _ => ?_)
          show Go p e below s n0 _ _ _ (T0.setTop (mkF m 34 #[.val (.ref a1), .val (.ref a2), .val (.ref a3), .val (.int (1 : Int32)), .val (.int (2 : Int32))] []))
          refine Go.st (fun _ => XS.aloadN X0.here C.hx rfl (hb C.hby d2_34) rfl rfl) ?_
          show Go p e below s n0 _ _ _ (T0.setTop (mkF m 35 #[.val (.ref a1), .val (.ref a2), .val (.ref a3), .val (.int (1 : Int32)), .val (.int (2 : Int32))] [(.ref a1)]))
          refine Go.st (fun _ => XS.iload X0.here C.hx rfl (hb C.hby d2_35) rfl) ?_
          show Go p e below s n0 _ _ _ (T0.setTop (mkF m 37 #[.val (.ref a1), .val (.ref a2), .val (.ref a3), .val (.int (1 : Int32)), .val (.int (2 : Int32))] [(.int (2 : Int32)), (.ref a1)]))
          refine Go.baload C X0 A1 (by decide) rfl d2_37 ?_
          show Go p e below s n0 _ _ _ (T0.setTop (mkF m 38 #[.val (.ref a1), .val (.ref a2), .val (.ref a3), .val (.int (1 : Int32)), .val (.int (2 : Int32))] [(.int x2)]))
          refine Go.st (fun _ => XS.aloadN X0.here C.hx rfl (hb C.hby d2_38) rfl rfl) ?_
          show Go p e below s n0 _ _ _ (T0.setTop (mkF m 39 #[.val (.ref a1), .val (.ref a2), .val (.ref a3), .val (.int (1 : Int32)), .val (.int (2 : Int32))] [(.ref a3), (.int x2)]))
          refine Go.st (fun _ => XS.iload X0.here C.hx rfl (hb C.hby d2_39) rfl) ?_
          show Go p e below s n0 _ _ _ (T0.setTop (mkF m 41 #[.val (.ref a1), .val (.ref a2), .val (.ref a3), .val (.int (1 : Int32)), .val (.int (2 : Int32))] [(.int (2 : Int32)), (.ref a3), (.int x2)]))
          refine Go.baload C X0 A3 (by decide) rfl d2_41 ?_
          show Go p e below s n0 _ _ _ (T0.setTop (mkF m 42 #[.val (.ref a1), .val (.ref a2), .val (.ref a3), .val (.int (1 : Int32)), .val (.int (2 : Int32))] [(.int z2), (.int x2)]))
          refine Go.st (fun _ => XS.iand X0.here C.hx rfl (hb C.hby d2_42) rfl) ?_
          show Go p e below s n0 _ _ _ (T0.setTop (mkF m 43 #[.val (.ref a1), .val (.ref a2), .val (.ref a3), .val (.int (1 : Int32)), .val (.int (2 : Int32))] [(.int (x2 &&& z2))]))
          refine Go.st (fun _ => XS.aloadN X0.here C.hx rfl (hb C.hby d2_43) rfl rfl) ?_
          show Go p e below s n0 _ _ _ (T0.setTop (mkF m 44 #[.val (.ref a1), .val (.ref a2), .val (.ref a3), .val (.int (1 : Int32)), .val (.int (2 : Int32))] [(.ref a2), (.int (x2 &&& z2))]))
          refine Go.st (fun _ => XS.iload X0.here C.hx rfl (hb C.hby d2_44) rfl) ?_
          show Go p e below s n0 _ _ _ (T0.setTop (mkF m 46 #[.val (.ref a1), .val (.ref a2), .val (.ref a3), .val (.int (1 : Int32)), .val (.int (2 : Int32))] [(.int (2 : Int32)), (.ref a2), (.int (x2 &&& z2))]))
          refine Go.baload C X0 A2 (by decide) rfl d2_46 ?_
          show Go p e below s n0 _ _ _ (T0.setTop (mkF m 47 #[.val (.ref a1), .val (.ref a2), .val (.ref a3), .val (.int (1 : Int32)), .val (.int (2 : Int32))] [(.int y2), (.int (x2 &&& z2))]))
          refine Go.st (fun _ => XS.aloadN X0.here C.hx rfl (hb C.hby d2_47) rfl rfl) ?_
          show Go p e below s n0 _ _ _ (T0.setTop (mkF m 48 #[.val (.ref a1), .val (.ref a2), .val (.ref a3), .val (.int (1 : Int32)), .val (.int (2 : Int32))] [(.ref a3), (.int y2), (.int (x2 &&& z2))]))
          refine Go.st (fun _ => XS.iload X0.here C.hx rfl (hb C.hby d2_48) rfl) ?_
          show Go p e below s n0 _ _ _ (T0.setTop (mkF m 50 #[.val (.ref a1), .val (.ref a2), .val (.ref a3), .val (.int (1 : Int32)), .val (.int (2 : Int32))] [(.int (2 : Int32)), (.ref a3), (.int y2), (.int (x2 &&& z2))]))
          refine Go.baload C X0 A3 (by decide) rfl d2_50 ?_
          show Go p e below s n0 _ _ _ (T0.setTop (mkF m 51 #[.val (.ref a1), .val (.ref a2), .val (.ref a3), .val (.int (1 : Int32)), .val (.int (2 : Int32))] [(.int z2), (.int y2), (.int (x2 &&& z2))]))
          refine Go.st (fun _ => XS.iand X0.here C.hx rfl (hb C.hby d2_51) rfl) ?_
          show Go p e below s n0 _ _ _ (T0.setTop (mkF m 52 #[.val (.ref a1), .val (.ref a2), .val (.ref a3), .val (.int (1 : Int32)), .val (.int (2 : Int32))] [(.int (y2 &&& z2)), (.int (x2 &&& z2))]))
          refine Go.icmp_ne C X0 (pc' := 59) d2_52 (by decide) (by decide) (fun hc52_176 => ?_) (fun hc52_176 => ?_)
          · show Go p e below s n0 _ _ _ (T0.setTop (mkF m 59 #[.val (.ref a1), .val (.ref a2), .val (.ref a3), .val (.int (1 : Int32)), .val (.int (2 : Int32))] []))
            refine Go.st (fun _ => XS.iconst X0.here C.hx rfl (hb C.hby d2_59)) ?_
            show Go p e below s n0 _ _ _ (T0.setTop (mkF m 60 #[.val (.ref a1), .val (.ref a2), .val (.ref a3), .val (.int (1 : Int32)), .val (.int (2 : Int32))] [(.int (0 : Int32))]))
            refine Go.st (fun _ => XS.istoreN X0.here C.hx rfl (hb C.hby d2_60) rfl (l' := #[.val (.ref a1), .val (.ref a2), .val (.ref a3), .val (.int (0 : Int32)), .val (.int (2 : Int32))]) rfl) ?_
            show Go p e below s n0 _ _ _ (T0.setTop (mkF m 61 #[.val (.ref a1), .val (.ref a2), .val (.ref a3), .val (.int (0 : Int32)), .val (.int (2 : Int32))] []))
            refine Go.st (fun _ => XS.iinc X0.here C.hx rfl (hb C.hby d2_61) rfl (l' := #[.val (.ref a1), .val (.ref a2), .val (.ref a3), .val (.int (0 : Int32)), .val (.int (3 : Int32))]) rfl) ?_
            show Go p e below s n0 _ _ _ (T0.setTop (mkF m 64 #[.val (.ref a1), .val (.ref a2), .val (.ref a3), .val (.int (0 : Int32)), .val (.int (3 : Int32))] []))
            refine Go.st (fun _ => XS.goto X0.here C.hx rfl (pc0 := 64) (pc' := 23) rfl (hb C.hby d2_64) (by decide) (by decide)) ?_
            show Go p e below s n0 _ _ _ (T0.setTop (mkF m 23 #[.val (.ref a1), .val (.ref a2), .val (.ref a3), .val (.int (0 : Int32)), .val (.int (3 : Int32))] []))
            refine Go.st (fun _ => XS.iload X0.here C.hx rfl (hb C.hby d2_23) rfl) ?_
            show Go p e below s n0 _ _ _ (T0.setTop (mkF m 25 #[.val (.ref a1), .val (.ref a2), .val (.ref a3), .val (.int (0 : Int32)), .val (.int (3 : Int32))] [(.int (3 : Int32))]))
            refine Go.st (fun _ => XS.aloadN X0.here C.hx rfl (hb C.hby d2_25) rfl rfl) ?_
            show Go p e below s n0 _ _ _ (T0.setTop (mkF m 26 #[.val (.ref a1), .val (.ref a2), .val (.ref a3), .val (.int (0 : Int32)), .val (.int (3 : Int32))] [(.ref a3), (.int (3 : Int32))]))
            refine Go.alen C X0 A3 (z := (3 : Int32)) rfl d2_26 ?_
            show Go p e below s n0 _ _ _ (T0.setTop (mkF m 27 #[.val (.ref a1), .val (.ref a2), .val (.ref a3), .val (.int (0 : Int32)), .val (.int (3 : Int32))] [(.int (3 : Int32)), (.int (3 : Int32))]))
            refine Go.icmp_ge C X0 (pc' := 67) d2_27 (by decide) (by decide) (fun _ => ?_) (fun hc => absurd hc (by decide))
            show Go p e below s n0 _ _ _ (T0.setTop (mkF m 67 #[.val (.ref a1), .val (.ref a2), .val (.ref a3), .val (.int (0 : Int32)), .val (.int (3 : Int32))] []))
            refine Go.st (fun _ => XS.iloadN X0.here C.hx rfl (hb C.hby d2_67) rfl) ?_
            show Go p e below s n0 _ _ _ (T0.setTop (mkF m 68 #[.val (.ref a1), .val (.ref a2), .val (.ref a3), .val (.int (0 : Int32)), .val (.int (3 : Int32))] [(.int (0 : Int32))]))
            exact Go.retZ C X0 (by decide) d2_68 ⟨by simp [eqmF, eqL, hc52_166, hc52_171, hc52_176], rfl⟩ (by decide) (by decide)
          · show Go p e below s n0 _ _ _ (T0.setTop (mkF m 55 #[.val (.ref a1), .val (.ref a2), .val (.ref a3), .val (.int (1 : Int32)), .val (.int (2 : Int32))] []))
            refine Go.st (fun _ => XS.iconst X0.here C.hx rfl (hb C.hby d2_55)) ?_
            show Go p e below s n0 _ _ _ (T0.setTop (mkF m 56 #[.val (.ref a1), .val (.ref a2), .val (.ref a3), .val (.int (1 : Int32)), .val (.int (2 : Int32))] [(.int (1 : Int32))]))
            refine Go.st (fun _ => XS.goto X0.here C.hx rfl (pc0 := 56) (pc' := 60) rfl (hb C.hby d2_56) (by decide) (by decide)) ?_
            show Go p e below s n0 _ _ _ (T0.setTop (mkF m 60 #[.val (.ref a1), .val (.ref a2), .val (.ref a3), .val (.int (1 : Int32)), .val (.int (2 : Int32))] [(.int (1 : Int32))]))
            refine Go.st (fun _ => XS.istoreN X0.here C.hx rfl (hb C.hby d2_60) rfl (l' := #[.val (.ref a1), .val (.ref a2), .val (.ref a3), .val (.int (1 : Int32)), .val (.int (2 : Int32))]) rfl) ?_
            show Go p e below s n0 _ _ _ (T0.setTop (mkF m 61 #[.val (.ref a1), .val (.ref a2), .val (.ref a3), .val (.int (1 : Int32)), .val (.int (2 : Int32))] []))
            refine Go.st (fun _ => XS.iinc X0.here C.hx rfl (hb C.hby d2_61) rfl (l' := #[.val (.ref a1), .val (.ref a2), .val (.ref a3), .val (.int (1 : Int32)), .val (.int (3 : Int32))]) rfl) ?_
            show Go p e below s n0 _ _ _ (T0.setTop (mkF m 64 #[.val (.ref a1), .val (.ref a2), .val (.ref a3), .val (.int (1 : Int32)), .val (.int (3 : Int32))] []))
            refine Go.st (fun _ => XS.goto X0.here C.hx rfl (pc0 := 64) (pc' := 23) rfl (hb C.hby d2_64) (by decide) (by decide)) ?_
            show Go p e below s n0 _ _ _ (T0.setTop (mkF m 23 #[.val (.ref a1), .val (.ref a2), .val (.ref a3), .val (.int (1 : Int32)), .val (.int (3 : Int32))] []))
            refine Go.st (fun _ => XS.iload X0.here C.hx rfl (hb C.hby d2_23) rfl) ?_
            show Go p e below s n0 _ _ _ (T0.setTop (mkF m 25 #[.val (.ref a1), .val (.ref a2), .val (.ref a3), .val (.int (1 : Int32)), .val (.int (3 : Int32))] [(.int (3 : Int32))]))
            refine Go.st (fun _ => XS.aloadN X0.here C.hx rfl (hb C.hby d2_25) rfl rfl) ?_
            show Go p e below s n0 _ _ _ (T0.setTop (mkF m 26 #[.val (.ref a1), .val (.ref a2), .val (.ref a3), .val (.int (1 : Int32)), .val (.int (3 : Int32))] [(.ref a3), (.int (3 : Int32))]))
            refine Go.alen C X0 A3 (z := (3 : Int32)) rfl d2_26 ?_
            show Go p e below s n0 _ _ _ (T0.setTop (mkF m 27 #[.val (.ref a1), .val (.ref a2), .val (.ref a3), .val (.int (1 : Int32)), .val (.int (3 : Int32))] [(.int (3 : Int32)), (.int (3 : Int32))]))
            refine Go.icmp_ge C X0 (pc' := 67) d2_27 (by decide) (by decide) (fun _ => ?_) (fun hc => absurd hc (by decide))
            show Go p e below s n0 _ _ _ (T0.setTop (mkF m 67 #[.val (.ref a1), .val (.ref a2), .val (.ref a3), .val (.int (1 : Int32)), .val (.int (3 : Int32))] []))
            refine Go.st (fun _ => XS.iloadN X0.here C.hx rfl (hb C.hby d2_67) rfl) ?_
            show Go p e below s n0 _ _ _ (T0.setTop (mkF m 68 #[.val (.ref a1), .val (.ref a2), .val (.ref a3), .val (.int (1 : Int32)), .val (.int (3 : Int32))] [(.int (1 : Int32))]))
            exact Go.retZ C X0 (by decide) d2_68 ⟨by simp [eqmF, eqL, hc52_166, hc52_171, hc52_176], rfl⟩ (by decide) (by decide)
    · obtain ⟨x0, x1, x2, x3, e_xs⟩ := ll4 xs (by omega)
      obtain ⟨y0, y1, y2, y3, e_ys⟩ := ll4 ys (by omega)
      obtain ⟨z0, z1, z2, z3, e_zs⟩ := ll4 zs hk
      subst e_xs e_ys e_zs
      show Go p e below s n0 _ _ _ (T0.setTop (mkF m 0 #[.val (.ref a1), .val (.ref a2), .val (.ref a3), .unset, .unset] []))
      refine Go.st (fun _ => XS.aloadN X0.here C.hx rfl (hb C.hby d2_0) rfl rfl) ?_
      show Go p e below s n0 _ _ _ (T0.setTop (mkF m 1 #[.val (.ref a1), .val (.ref a2), .val (.ref a3), .unset, .unset] [(.ref a1)]))
      refine Go.alen C X0 A1 (z := (4 : Int32)) rfl d2_1 ?_
      show Go p e below s n0 _ _ _ (T0.setTop (mkF m 2 #[.val (.ref a1), .val (.ref a2), .val (.ref a3), .unset, .unset] [(.int (4 : Int32))]))
      refine Go.st (fun _ => XS.aloadN X0.here C.hx rfl (hb C.hby d2_2) rfl rfl) ?_
      show Go p e below s n0 _ _ _ (T0.setTop (mkF m 3 #[.val (.ref a1), .val (.ref a2), .val (.ref a3), .unset, .unset] [(.ref a2), (.int (4 : Int32))]))
      refine Go.alen C X0 A2 (z := (4 : Int32)) rfl d2_3 ?_
      show Go p e below s n0 _ _ _ (T0.setTop (mkF m 4 #[.val (.ref a1), .val (.ref a2), .val (.ref a3), .unset, .unset] [(.int (4 : Int32)), (.int (4 : Int32))]))
      refine Go.icmp_ne C X0 (pc' := 18) d2_4 (by decide) (by decide) (fun hc => absurd hc (by decide)) (fun _ => ?_)
      show Go p e below s n0 _ _ _ (T0.setTop (mkF m 7 #[.val (.ref a1), .val (.ref a2), .val (.ref a3), .unset, .unset] []))
      refine Go.st (fun _ => XS.aloadN X0.here C.hx rfl (hb C.hby d2_7) rfl rfl) ?_
      show Go p e below s n0 _ _ _ (T0.setTop (mkF m 8 #[.val (.ref a1), .val (.ref a2), .val (.ref a3), .unset, .unset] [(.ref a1)]))
      refine Go.alen C X0 A1 (z := (4 : Int32)) rfl d2_8 ?_
      show Go p e below s n0 _ _ _ (T0.setTop (mkF m 9 #[.val (.ref a1), .val (.ref a2), .val (.ref a3), .unset, .unset] [(.int (4 : Int32))]))
      refine Go.st (fun _ => XS.aloadN X0.here C.hx rfl (hb C.hby d2_9) rfl rfl) ?_
      show Go p e below s n0 _ _ _ (T0.setTop (mkF m 10 #[.val (.ref a1), .val (.ref a2), .val (.ref a3), .unset, .unset] [(.ref a3), (.int (4 : Int32))]))
      refine Go.alen C X0 A3 (z := (4 : Int32)) rfl d2_10 ?_
      show Go p e below s n0 _ _ _ (T0.setTop (mkF m 11 #[.val (.ref a1), .val (.ref a2), .val (.ref a3), .unset, .unset] [(.int (4 : Int32)), (.int (4 : Int32))]))
      refine Go.icmp_ne C X0 (pc' := 18) d2_11 (by decide) (by decide) (fun hc => absurd hc (by decide)) (fun _ => ?_)
      show Go p e below s n0 _ _ _ (T0.setTop (mkF m 14 #[.val (.ref a1), .val (.ref a2), .val (.ref a3), .unset, .unset] []))
      refine Go.st (fun _ => XS.iconst X0.here C.hx rfl (hb C.hby d2_14)) ?_
      show Go p e below s n0 _ _ _ (T0.setTop (mkF m 15 #[.val (.ref a1), .val (.ref a2), .val (.ref a3), .unset, .unset] [(.int (1 : Int32))]))
      refine Go.st (fun _ => XS.goto X0.here C.hx rfl (pc0 := 15) (pc' := 19) rfl (hb C.hby d2_15) (by decide) (by decide)) ?_
      show Go p e below s n0 _ _ _ (T0.setTop (mkF m 19 #[.val (.ref a1), .val (.ref a2), .val (.ref a3), .unset, .unset] [(.int (1 : Int32))]))
      refine Go.st (fun _ => XS.istoreN X0.here C.hx rfl (hb C.hby d2_19) rfl (l' := #[.val (.ref a1), .val (.ref a2), .val (.ref a3), .val (.int (1 : Int32)), .unset]) rfl) ?_
      show Go p e below s n0 _ _ _ (T0.setTop (mkF m 20 #[.val (.ref a1), .val (.ref a2), .val (.ref a3), .val (.int (1 : Int32)), .unset] []))
      refine Go.st (fun _ => XS.iconst X0.here C.hx rfl (hb C.hby d2_20)) ?_
      show Go p e below s n0 _ _ _ (T0.setTop (mkF m 21 #[.val (.ref a1), .val (.ref a2), .val (.ref a3), .val (.int (1 : Int32)), .unset] [(.int (0 : Int32))]))
      refine Go.st (fun _ => XS.istore X0.here C.hx rfl (hb C.hby d2_21) rfl (l' := #[.val (.ref a1), .val (.ref a2), .val (.ref a3), .val (.int (1 : Int32)), .val (.int (0 : Int32))]) rfl) ?_
      show Go p e below s n0 _ _ _ (T0.setTop (mkF m 23 #[.val (.ref a1), .val (.ref a2), .val (.ref a3), .val (.int (1 : Int32)), .val (.int (0 : Int32))] []))
      refine Go.st (fun _ => XS.iload X0.here C.hx rfl (hb C.hby d2_23) rfl) ?_
      show Go p e below s n0 _ _ _ (T0.setTop (mkF m 25 #[.val (.ref a1), .val (.ref a2), .val (.ref a3), .val (.int (1 : Int32)), .val (.int (0 : Int32))] [(.int (0 : Int32))]))
      refine Go.st (fun _ => XS.aloadN X0.here C.hx rfl (hb C.hby d2_25) rfl rfl) ?_
      show Go p e below s n0 _ _ _ (T0.setTop (mkF m 26 #[.val (.ref a1), .val (.ref a2), .val (.ref a3), .val (.int (1 : Int32)), .val (.int (0 : Int32))] [(.ref a3), (.int (0 : Int32))]))
      refine Go.alen C X0 A3 (z := (4 : Int32)) rfl d2_26 ?_
      show Go p e below s n0 _ _ _ (T0.setTop (mkF m 27 #[.val (.ref a1), .val (.ref a2), .val (.ref a3), .val (.int (1 : Int32)), .val (.int (0 : Int32))] [(.int (4 : Int32)), (.int (0 : Int32))]))
      refine Go.icmp_ge C X0 (pc' := 67) d2_27 (by decide) (by decide) (fun hc => absurd hc (by decide)) (fun _ => ?_)
      show Go p e below s n0 _ _ _ (T0.setTop (mkF m 30 #[.val (.ref a1), .val (.ref a2), .val (.ref a3), .val (.int (1 : Int32)), .val (.int (0 : Int32))] []))
      refine Go.st (fun _ => XS.iloadN X0.here C.hx rfl (hb C.hby d2_30) rfl) ?_
      show Go p e below s n0 _ _ _ (T0.setTop (mkF m 31 #[.val (.ref a1), .val (.ref a2), .val (.ref a3), .val (.int (1 : Int32)), .val (.int (0 : Int32))] [(.int (1 : Int32))]))
      refine Go.if_eq C X0 (pc' := 67) d2_31 (by decide) (by decide) (fun hc => absurd hc (by decide)) (fun _ => ?_)
      show Go p e below s n0 _ _ _ (T0.setTop (mkF m 34 #[.val (.ref a1), .val (.ref a2), .val (.ref a3), .val (.int (1 : Int32)), .val (.int (0 : Int32))] []))
      refine Go.st (fun _ => XS.aloadN X0.here C.hx rfl (hb C.hby d2_34) rfl rfl) ?_
      show Go p e below s n0 _ _ _ (T0.setTop (mkF m 35 #[.val (.ref a1), .val (.ref a2), .val (.ref a3), .val (.int (1 : Int32)), .val (.int (0 : Int32))] [(.ref a1)]))
      refine Go.st (fun _ => XS.iload X0.here C.hx rfl (hb C.hby d2_35) rfl) ?_
      show Go p e below s n0 _ _ _ (T0.setTop (mkF m 37 #[.val (.ref a1), .val (.ref a2), .val (.ref a3), .val (.int (1 : Int32)), .val (.int (0 : Int32))] [(.int (0 : Int32)), (.ref a1)]))
      refine Go.baload C X0 A1 (by decide) rfl d2_37 ?_
      show Go p e below s n0 _ _ _ (T0.setTop (mkF m 38 #[.val (.ref a1), .val (.ref a2), .val (.ref a3), .val (.int (1 : Int32)), .val (.int (0 : Int32))] [(.int x0)]))
      refine Go.st (fun _ => XS.aloadN X0.here C.hx rfl (hb C.hby d2_38) rfl rfl) ?_
      show Go p e below s n0 _ _ _ (T0.setTop (mkF m 39 #[.val (.ref a1), .val (.ref a2), .val (.ref a3), .val (.int (1 : Int32)), .val (.int (0 : Int32))] [(.ref a3), (.int x0)]))
      refine Go.st (fun _ => XS.iload X0.here C.hx rfl (hb C.hby d2_39) rfl) ?_
      show Go p e below s n0 _ _ _ (T0.setTop (mkF m 41 #[.val (.ref a1), .val (.ref a2), .val (.ref a3), .val (.int (1 : Int32)), .val (.int (0 : Int32))] [(.int (0 : Int32)), (.ref a3), (.int x0)]))
      refine Go.baload C X0 A3 (by decide) rfl d2_41 ?_
      show Go p e below s n0 _ _ _ (T0.setTop (mkF m 42 #[.val (.ref a1), .val (.ref a2), .val (.ref a3), .val (.int (1 : Int32)), .val (.int (0 : Int32))] [(.int z0), (.int x0)]))
      refine Go.st (fun _ => XS.iand X0.here C.hx rfl (hb C.hby d2_42) rfl) ?_
      show Go p e below s n0 _ _ _ (T0.setTop (mkF m 43 #[.val (.ref a1), .val (.ref a2), .val (.ref a3), .val (.int (1 : Int32)), .val (.int (0 : Int32))] [(.int (x0 &&& z0))]))
      refine Go.st (fun _ => XS.aloadN X0.here C.hx rfl (hb C.hby d2_43) rfl rfl) ?_
      show Go p e below s n0 _ _ _ (T0.setTop (mkF m 44 #[.val (.ref a1), .val (.ref a2), .val (.ref a3), .val (.int (1 : Int32)), .val (.int (0 : Int32))] [(.ref a2), (.int (x0 &&& z0))]))
      refine Go.st (fun _ => XS.iload X0.here C.hx rfl (hb C.hby d2_44) rfl) ?_
      show Go p e below s n0 _ _ _ (T0.setTop (mkF m 46 #[.val (.ref a1), .val (.ref a2), .val (.ref a3), .val (.int (1 : Int32)), .val (.int (0 : Int32))] [(.int (0 : Int32)), (.ref a2), (.int (x0 &&& z0))]))
      refine Go.baload C X0 A2 (by decide) rfl d2_46 ?_
      show Go p e below s n0 _ _ _ (T0.setTop (mkF m 47 #[.val (.ref a1), .val (.ref a2), .val (.ref a3), .val (.int (1 : Int32)), .val (.int (0 : Int32))] [(.int y0), (.int (x0 &&& z0))]))
      refine Go.st (fun _ => XS.aloadN X0.here C.hx rfl (hb C.hby d2_47) rfl rfl) ?_
      show Go p e below s n0 _ _ _ (T0.setTop (mkF m 48 #[.val (.ref a1), .val (.ref a2), .val (.ref a3), .val (.int (1 : Int32)), .val (.int (0 : Int32))] [(.ref a3), (.int y0), (.int (x0 &&& z0))]))
      refine Go.st (fun _ => XS.iload X0.here C.hx rfl (hb C.hby d2_48) rfl) ?_
      show Go p e below s n0 _ _ _ (T0.setTop (mkF m 50 #[.val (.ref a1), .val (.ref a2), .val (.ref a3), .val (.int (1 : Int32)), .val (.int (0 : Int32))] [(.int (0 : Int32)), (.ref a3), (.int y0), (.int (x0 &&& z0))]))
      refine Go.baload C X0 A3 (by decide) rfl d2_50 ?_
      show Go p e below s n0 _ _ _ (T0.setTop (mkF m 51 #[.val (.ref a1), .val (.ref a2), .val (.ref a3), .val (.int (1 : Int32)), .val (.int (0 : Int32))] [(.int z0), (.int y0), (.int (x0 &&& z0))]))
      refine Go.st (fun _ => XS.iand X0.here C.hx rfl (hb C.hby d2_51) rfl) ?_
      show Go p e below s n0 _ _ _ (T0.setTop (mkF m 52 #[.val (.ref a1), .val (.ref a2), .val (.ref a3), .val (.int (1 : Int32)), .val (.int (0 : Int32))] [(.int (y0 &&& z0)), (.int (x0 &&& z0))]))
      refine Go.icmp_ne C X0 (pc' := 59) d2_52 (by decide) (by decide) (fun hc52_183 => ?_) (fun hc52_183 => ?_)
      · show Go p e below s n0 _ _ _ (T0.setTop (mkF m 59 #[.val (.ref a1), .val (.ref a2), .val (.ref a3), .val (.int (1 : Int32)), .val (.int (0 : Int32))] []))
        refine Go.st (fun _ => XS.iconst X0.here C.hx rfl (hb C.hby d2_59)) ?_
        show Go p e below s n0 _ _ _ (T0.setTop (mkF m 60 #[.val (.ref a1), .val (.ref a2), .val (.ref a3), .val (.int (1 : Int32)), .val (.int (0 : Int32))] [(.int (0 : Int32))]))
        refine Go.st (fun _ => XS.istoreN X0.here C.hx rfl (hb C.hby d2_60) rfl (l' := #[.val (.ref a1), .val (.ref a2), .val (.ref a3), .val (.int (0 : Int32)), .val (.int (0 : Int32))]) rfl) ?_
        show Go p e below s n0 _ _ _ (T0.setTop (mkF m 61 #[.val (.ref a1), .val (.ref a2), .val (.ref a3), .val (.int (0 : Int32)), .val (.int (0 : Int32))] []))
        refine Go.st (fun _ => XS.iinc X0.here C.hx rfl (hb C.hby d2_61) rfl (l' := #[.val (.ref a1), .val (.ref a2), .val (.ref a3), .val (.int (0 : Int32)), .val (.int (1 : Int32))]) rfl) ?_
        show Go p e below s n0 _ _ _ (T0.setTop (mkF m 64 #[.val (.ref a1), .val (.ref a2), .val (.ref a3), .val (.int (0 : Int32)), .val (.int (1 : Int32))] []))
        refine Go.st (fun _ => XS.goto X0.here C.hx rfl (pc0 := 64) (pc' := 23) rfl (hb C.hby d2_64) (by decide) (by decide)) ?_
        show Go p e below s n0 _ _ _ (T0.setTop (mkF m 23 #[.val (.ref a1), .val (.ref a2), .val (.ref a3), .val (.int (0 : Int32)), .val (.int (1 : Int32))] []))
        refine Go.st (fun _ => XS.iload X0.here C.hx rfl (hb C.hby d2_23) rfl) ?_
        show Go p e below s n0 _ _ _ (T0.setTop (mkF m 25 #[.val (.ref a1), .val (.ref a2), .val (.ref a3), .val (.int (0 : Int32)), .val (.int (1 : Int32))] [(.int (1 : Int32))]))
        refine Go.st (fun _ => XS.aloadN X0.here C.hx rfl (hb C.hby d2_25) rfl rfl) ?_
        show Go p e below s n0 _ _ _ (T0.setTop (mkF m 26 #[.val (.ref a1), .val (.ref a2), .val (.ref a3), .val (.int (0 : Int32)), .val (.int (1 : Int32))] [(.ref a3), (.int (1 : Int32))]))
        refine Go.alen C X0 A3 (z := (4 : Int32)) rfl d2_26 ?_
        show Go p e below s n0 _ _ _ (T0.setTop (mkF m 27 #[.val (.ref a1), .val (.ref a2), .val (.ref a3), .val (.int (0 : Int32)), .val (.int (1 : Int32))] [(.int (4 : Int32)), (.int (1 : Int32))]))
        refine Go.icmp_ge C X0 (pc' := 67) d2_27 (by decide) (by decide) (fun hc => absurd hc (by decide)) (fun _ => ?_)
        show Go p e below s n0 _ _ _ (T0.setTop (mkF m 30 #[.val (.ref a1), .val (.ref a2), .val (.ref a3), .val (.int (0 : Int32)), .val (.int (1 : Int32))] []))
        refine Go.st (fun _ => XS.iloadN X0.here C.hx rfl (hb C.hby d2_30) rfl) ?_
        show Go p e below s n0 _ _ _ (T0.setTop (mkF m 31 #[.val (.ref a1), .val (.ref a2), .val (.ref a3), .val (.int (0 : Int32)), .val (.int (1 : Int32))] [(.int (0 : Int32))]))
        refine Go.if_eq C X0 (pc' := 67) d2_31 (by decide) (by decide) (fun _ => ?_) (fun hc => absurd hc (by decide))
        show Go p e below s n0 _ _ _ (T0.setTop (mkF m 67 #[.val (.ref a1), .val (.ref a2), .val (.ref a3), .val (.int (0 : Int32)), .val (.int (1 : Int32))] []))
        refine Go.st (fun _ => XS.iloadN X0.here C.hx rfl (hb C.hby d2_67) rfl) ?_
        show Go p e below s n0 _ _ _ (T0.setTop (mkF m 68 #[.val (.ref a1), .val (.ref a2), .val (.ref a3), .val (.int (0 : Int32)), .val (.int (1 : Int32))] [(.int (0 : Int32))]))
        exact Go.retZ C X0 (by decide) d2_68 ⟨by simp [eqmF, eqL, hc52_183], rfl⟩ (by decide) (by decide)
      · show Go p e below s n0 _ _ _ (T0.setTop (mkF m 55 #[.val (.ref a1), .val (.ref a2), .val (.ref a3), .val (.int (1 : Int32)), .val (.int (0 : Int32))] []))
        refine Go.st (fun _ => XS.iconst X0.here C.hx rfl (hb C.hby d2_55)) ?_
        show Go p e below s n0 _ _ _ (T0.setTop (mkF m 56 #[.val (.ref a1), .val (.ref a2), .val (.ref a3), .val (.int (1 : Int32)), .val (.int (0 : Int32))] [(.int (1 : Int32))]))
        refine Go.st (fun _ => XS.goto X0.here C.hx rfl (pc0 := 56) (pc' := 60) rfl (hb C.hby d2_56) (by decide) (by decide)) ?_
        show Go p e below s n0 _ _ _ (T0.setTop (mkF m 60 #[.val (.ref a1), .val (.ref a2), .val (.ref a3), .val (.int (1 : Int32)), .val (.int (0 : Int32))] [(.int (1 : Int32))]))
        refine Go.st (fun _ => XS.istoreN X0.here C.hx rfl (hb C.hby d2_60) rfl (l' := #[.val (.ref a1), .val (.ref a2), .val (.ref a3), .val (.int (1 : Int32)), .val (.int (0 : Int32))]) rfl) ?_
        show Go p e below s n0 _ _ _ (T0.setTop (mkF m 61 #[.val (.ref a1), .val (.ref a2), .val (.ref a3), .val (.int (1 : Int32)), .val (.int (0 : Int32))] []))
        refine Go.st (fun _ => XS.iinc X0.here C.hx rfl (hb C.hby d2_61) rfl (l' := #[.val (.ref a1), .val (.ref a2), .val (.ref a3), .val (.int (1 : Int32)), .val (.int (1 : Int32))]) rfl) ?_
        show Go p e below s n0 _ _ _ (T0.setTop (mkF m 64 #[.val (.ref a1), .val (.ref a2), .val (.ref a3), .val (.int (1 : Int32)), .val (.int (1 : Int32))] []))
        refine Go.st (fun _ => XS.goto X0.here C.hx rfl (pc0 := 64) (pc' := 23) rfl (hb C.hby d2_64) (by decide) (by decide)) ?_
        show Go p e below s n0 _ _ _ (T0.setTop (mkF m 23 #[.val (.ref a1), .val (.ref a2), .val (.ref a3), .val (.int (1 : Int32)), .val (.int (1 : Int32))] []))
        refine Go.st (fun _ => XS.iload X0.here C.hx rfl (hb C.hby d2_23) rfl) ?_
        show Go p e below s n0 _ _ _ (T0.setTop (mkF m 25 #[.val (.ref a1), .val (.ref a2), .val (.ref a3), .val (.int (1 : Int32)), .val (.int (1 : Int32))] [(.int (1 : Int32))]))
        refine Go.st (fun _ => XS.aloadN X0.here C.hx rfl (hb C.hby d2_25) rfl rfl) ?_
        show Go p e below s n0 _ _ _ (T0.setTop (mkF m 26 #[.val (.ref a1), .val (.ref a2), .val (.ref a3), .val (.int (1 : Int32)), .val (.int (1 : Int32))] [(.ref a3), (.int (1 : Int32))]))
        refine Go.alen C X0 A3 (z := (4 : Int32)) rfl d2_26 ?_
        show Go p e below s n0 _ _ _ (T0.setTop (mkF m 27 #[.val (.ref a1), .val (.ref a2), .val (.ref a3), .val (.int (1 : Int32)), .val (.int (1 : Int32))] [(.int (4 : Int32)), (.int (1 : Int32))]))
        refine Go.icmp_ge C X0 (pc' := 67) d2_27 (by decide) (by decide) (fun hc => absurd hc (by decide)) (fun _ => ?_)
        show Go p e below s n0 _ _ _ (T0.setTop (mkF m 30 #[.val (.ref a1), .val (.ref a2), .val (.ref a3), .val (.int (1 : Int32)), .val (.int (1 : Int32))] []))
        refine Go.st (fun _ => XS.iloadN X0.here C.hx rfl (hb C.hby d2_30) rfl) ?_
        show Go p e below s n0 _ _ _ (T0.setTop (mkF m 31 #[.val (.ref a1), .val (.ref a2), .val (.ref a3), .val (.int (1 : Int32)), .val (.int (1 : Int32))] [(.int (1 : Int32))]))
        refine Go.if_eq C X0 (pc' := 67) d2_31 (by decide) (by decide) (fun hc => absurd hc (by decide)) (fun _ => ?_)
        show Go p e below s n0 _ _ _ (T0.setTop (mkF m 34 #[.val (.ref a1), .val (.ref a2), .val (.ref a3), .val (.int (1 : Int32)), .val (.int (1 : Int32))] []))
        refine Go.st (fun _ => XS.aloadN X0.here C.hx rfl (hb C.hby d2_34) rfl rfl) ?_
        show Go p e below s n0 _ _ _ (T0.setTop (mkF m 35 #[.val (.ref a1), .val (.ref a2), .val (.ref a3), .val (.int (1 : Int32)), .val (.int (1 : Int32))] [(.ref a1)]))
        refine Go.st (fun _ => XS.iload X0.here C.hx rfl (hb C.hby d2_35) rfl) ?_
        show Go p e below s n0 _ _ _ (T0.setTop (mkF m 37 #[.val (.ref a1), .val (.ref a2), .val (.ref a3), .val (.int (1 : Int32)), .val (.int (1 : Int32))] [(.int (1 : Int32)), (.ref a1)]))
        refine Go.baload C X0 A1 (by decide) rfl d2_37 ?_
        show Go p e below s n0 _ _ _ (T0.setTop (mkF m 38 #[.val (.ref a1), .val (.ref a2), .val (.ref a3), .val (.int (1 : Int32)), .val (.int (1 : Int32))] [(.int x1)]))
        refine Go.st (fun _ => XS.aloadN X0.here C.hx rfl (hb C.hby d2_38) rfl rfl) ?_
        show Go p e below s n0 _ _ _ (T0.setTop (mkF m 39 #[.val (.ref a1), .val (.ref a2), .val (.ref a3), .val (.int (1 : Int32)), .val (.int (1 : Int32))] [(.ref a3), (.int x1)]))
        refine Go.st (fun _ => XS.iload X0.here C.hx rfl (hb C.hby d2_39) rfl) ?_
        show Go p e below s n0 _ _ _ (T0.setTop (mkF m 41 #[.val (.ref a1), .val (.ref a2), .val (.ref a3), .val (.int (1 : Int32)), .val (.int (1 : Int32))] [(.int (1 : Int32)), (.ref a3), (.int x1)]))
        refine Go.baload C X0 A3 (by decide) rfl d2_41 ?_
        show Go p e below s n0 _ _ _ (T0.setTop (mkF m 42 #[.val (.ref a1), .val (.ref a2), .val (.ref a3), .val (.int (1 : Int32)), .val (.int (1 : Int32))] [(.int z1), (.int x1)]))
        refine Go.st (fun _ => XS.iand X0.here C.hx rfl (hb C.hby d2_42) rfl) ?_
        show Go p e below s n0 _ _ _ (T0.setTop (mkF m 43 #[.val (.ref a1), .val (.ref a2), .val (.ref a3), .val (.int (1 : Int32)), .val (.int (1 : Int32))] [(.int (x1 &&& z1))]))
        refine Go.st (fun _ => XS.aloadN X0.here C.hx rfl (hb C.hby d2_43) rfl rfl) ?_
        show Go p e below s n0 _ _ _ (T0.setTop (mkF m 44 #[.val (.ref a1), .val (.ref a2), .val (.ref a3), .val (.int (1 : Int32)), .val (.int (1 : Int32))] [(.ref a2), (.int (x1 &&& z1))]))
        refine Go.st (fun _ => XS.iload X0.here C.hx rfl (hb C.hby d2_44) rfl) ?_
        show Go p e below s n0 _ _ _ (T0.setTop (mkF m 46 #[.val (.ref a1), .val (.ref a2), .val (.ref a3), .val (.int (1 : Int32)), .val (.int (1 : Int32))] [(.int (1 : Int32)), (.ref a2), (.int (x1 &&& z1))]))
        refine Go.baload C X0 A2 (by decide) rfl d2_46 ?_
        show Go p e below s n0 _ _ _ (T0.setTop (mkF m 47 #[.val (.ref a1), .val (.ref a2), .val (.ref a3), .val (.int (1 : Int32)), .val (.int (1 : Int32))] [(.int y1), (.int (x1 &&& z1))]))
        refine Go.st (fun _ => XS.aloadN X0.here C.hx rfl (hb C.hby d2_47) rfl rfl) ?_
        show Go p e below s n0 _ _ _ (T0.setTop (mkF m 48 #[.val (.ref a1), .val (.ref a2), .val (.ref a3), .val (.int (1 : Int32)), .val (.int (1 : Int32))] [(.ref a3), (.int y1), (.int (x1 &&& z1))]))
        refine Go.st (fun _ => XS.iload X0.here C.hx rfl (hb C.hby d2_48) rfl) ?_
        show Go p e below s n0 _ _ _ (T0.setTop (mkF m 50 #[.val (.ref a1), .val (.ref a2), .val (.ref a3), .val (.int (1 : Int32)), .val (.int (1 : Int32))] [(.int (1 : Int32)), (.ref a3), (.int y1), (.int (x1 &&& z1))]))
        refine Go.baload C X0 A3 (by decide) rfl d2_50 ?_
        show Go p e below s n0 _ _ _ (T0.setTop (mkF m 51 #[.val (.ref a1), .val (.ref a2), .val (.ref a3), .val (.int (1 : Int32)), .val (.int (1 : Int32))] [(.int z1), (.int y1), (.int (x1 &&& z1))]))
        refine Go.st (fun _ => XS.iand X0.here C.hx rfl (hb C.hby d2_51) rfl) ?_
        show Go p e below s n0 _ _ _ (T0.setTop (mkF m 52 #[.val (.ref a1), .val (.ref a2), .val (.ref a3), .val (.int (1 : Int32)), .val (.int (1 : Int32))] [(.int (y1 &&& z1)), (.int (x1 &&& z1))]))
        refine Go.icmp_ne C X0 (pc' := 59) d2_52 (by decide) (by decide) (fun hc52_188 => ?_) (fun hc52_188 => ?_)
        · show Go p e below s n0 _ _ _ (T0.setTop (mkF m 59 #[.val (.ref a1), .val (.ref a2), .val (.ref a3), .val (.int (1 : Int32)), .val (.int (1 : Int32))] []))
          refine Go.st (fun _ => XS.iconst X0.here C.hx rfl (hb C.hby d2_59)) ?_
          show Go p e below s n0 _ _ _ (T0.setTop (mkF m 60 #[.val (.ref a1), .val (.ref a2), .val (.ref a3), .val (.int (1 : Int32)), .val (.int (1 : Int32))] [(.int (0 : Int32))]))
          refine Go.st (fun _ => XS.istoreN X0.here C.hx rfl (hb C.hby d2_60) rfl (l' := #[.val (.ref a1), .val (.ref a2), .val (.ref a3), .val (.int (0 : Int32)), .val (.int (1 : Int32))]) rfl) ?_
          show Go p e below s n0 _ _ _ (T0.setTop (mkF m 61 #[.val (.ref a1), .val (.ref a2), .val (.ref a3), .val (.int (0 : Int32)), .val (.int (1 : Int32))] []))
          refine Go.st (fun _ => XS.iinc X0.here C.hx rfl (hb C.hby d2_61) rfl (l' := #[.val (.ref a1), .val (.ref a2), .val (.ref a3), .val (.int (0 : Int32)), .val (.int (2 : Int32))]) rfl) ?_
          show Go p e below s n0 _ _ _ (T0.setTop (mkF m 64 #[.val (.ref a1), .val (.ref a2), .val (.ref a3), .val (.int (0 : Int32)), .val (.int (2 : Int32))] []))
          refine Go.st (fun _ => XS.goto X0.here C.hx rfl (pc0 := 64) (pc' := 23) rfl (hb C.hby d2_64) (by decide) (by decide)) ?_
          show Go p e below s n0 _ _ _ (T0.setTop (mkF m 23 #[.val (.ref a1), .val (.ref a2), .val (.ref a3), .val (.int (0 : Int32)), .val (.int (2 : Int32))] []))
          refine Go.st (fun _ => XS.iload X0.here C.hx rfl (hb C.hby d2_23) rfl) ?_
          show Go p e below s n0 _ _ _ (T0.setTop (mkF m 25 #[.val (.ref a1), .val (.ref a2), .val (.ref a3), .val (.int (0 : Int32)), .val (.int (2 : Int32))] [(.int (2 : Int32))]))
          refine Go.st (fun _ => XS.aloadN X0.here C.hx rfl (hb C.hby d2_25) rfl rfl) ?_
          show Go p e below s n0 _ _ _ (T0.setTop (mkF m 26 #[.val (.ref a1), .val (.ref a2), .val (.ref a3), .val (.int (0 : Int32)), .val (.int (2 : Int32))] [(.ref a3), (.int (2 : Int32))]))
          refine Go.alen C X0 A3 (z := (4 : Int32)) rfl d2_26 ?_
          show Go p e below s n0 _ _ _ (T0.setTop (mkF m 27 #[.val (.ref a1), .val (.ref a2), .val (.ref a3), .val (.int (0 : Int32)), .val (.int (2 : Int32))] [(.int (4 : Int32)), (.int (2 : Int32))]))
          refine Go.icmp_ge C X0 (pc' := 67) d2_27 (by decide) (by decide) (fun hc => absurd hc (by decide)) (fun _ => ?_)
          show Go p e below s n0 _ _ _ (T0.setTop (mkF m 30 #[.val (.ref a1), .val (.ref a2), .val (.ref a3), .val (.int (0 : Int32)), .val (.int (2 : Int32))] []))
          refine Go.st (fun _ => XS.iloadN X0.here C.hx rfl (hb C.hby d2_30) rfl) ?_
          show Go p e below s n0 _ _ _ (T0.setTop (mkF m 31 #[.val (.ref a1), .val (.ref a2), .val (.ref a3), .val (.int (0 : Int32)), .val (.int (2 : Int32))] [(.int (0 : Int32))]))
          refine Go.if_eq C X0 (pc' := 67) d2_31 (by decide) (by decide) (fun _ => ?_) (fun hc => absurd hc (by decide))
          show Go p e below s n0 _ _ _ (T0.setTop (mkF m 67 #[.val (.ref a1), .val (.ref a2), .val (.ref a3), .val (.int (0 : Int32)), .val (.int (2 : Int32))] []))
          refine Go.st (fun _ => XS.iloadN X0.here C.hx rfl (hb C.hby d2_67) rfl) ?_
          show Go p e below s n0 _ _ _ (T0.setTop (mkF m 68 #[.val (.ref a1), .val (.ref a2), .val (.ref a3), .val (.int (0 : Int32)), .val (.int (2 : Int32))] [(.int (0 : Int32))]))
          exact Go.retZ C X0 (by decide) d2_68 ⟨by simp [eqmF, eqL, hc52_183, hc52_188], rfl⟩ (by decide) (by decide)
        · show Go p e below s n0 _ _ _ (T0.setTop (mkF m 55 #[.val (.ref a1), .val (.ref a2), .val (.ref a3), .val (.int (1 : Int32)), .val (.int (1 : Int32))] []))
          refine Go.st (fun _ => XS.iconst X0.here C.hx rfl (hb C.hby d2_55)) ?_
          show Go p e below s n0 _ _ _ (T0.setTop (mkF m 56 #[.val (.ref a1), .val (.ref a2), .val (.ref a3), .val (.int (1 : Int32)), .val (.int (1 : Int32))] [(.int (1 : Int32))]))
          refine Go.st (fun _ => XS.goto X0.here C.hx rfl (pc0 := 56) (pc' := 60) rfl (hb C.hby d2_56) (by decide) (by decide)) ?_
          show Go p e below s n0 _ _ _ (T0.setTop (mkF m 60 #[.val (.ref a1), .val (.ref a2), .val (.ref a3), .val (.int (1 : Int32)), .val (.int (1 : Int32))] [(.int (1 : Int32))]))
          refine Go.st (fun _ => XS.istoreN X0.here C.hx rfl (hb C.hby d2_60) rfl (l' := #[.val (.ref a1), .val (.ref a2), .val (.ref a3), .val (.int (1 : Int32)), .val (.int (1 : Int32))]) rfl) ?_
          show Go p e below s n0 _ _ _ (T0.setTop (mkF m 61 #[.val (.ref a1), .val (.ref a2), .val (.ref a3), .val (.int (1 : Int32)), .val (.int (1 : Int32))] []))
          refine Go.st (fun _ => XS.iinc X0.here C.hx rfl (hb C.hby d2_61) rfl (l' := #[.val (.ref a1), .val (.ref a2), .val (.ref a3), .val (.int (1 : Int32)), .val (.int (2 : Int32))]) rfl) ?_
          show Go p e below s n0 _ _ _ (T0.setTop (mkF m 64 #[.val (.ref a1), .val (.ref a2), .val (.ref a3), .val (.int (1 : Int32)), .val (.int (2 : Int32))] []))
          refine Go.st (fun _ => XS.goto X0.here C.hx rfl (pc0 := 64) (pc' := 23) rfl (hb C.hby d2_64) (by decide) (by decide)) ?_
          show Go p e below s n0 _ _ _ (T0.setTop (mkF m 23 #[.val (.ref a1), .val (.ref a2), .val (.ref a3), .val (.int (1 : Int32)), .val (.int (2 : Int32))] []))
          refine Go.st (fun _ => XS.iload X0.here C.hx rfl (hb C.hby d2_23) rfl) ?_
          show Go p e below s n0 _ _ _ (T0.setTop (mkF m 25 #[.val (.ref a1), .val (.ref a2), .val (.ref a3), .val (.int (1 : Int32)), .val (.int (2 : Int32))] [(.int (2 : Int32))]))
          refine Go.st (fun _ => XS.aloadN X0.here C.hx rfl (hb C.hby d2_25) rfl rfl) ?_
          show Go p e below s n0 _ _ _ (T0.setTop (mkF m 26 #[.val (.ref a1), .val (.ref a2), .val (.ref a3), .val (.int (1 : Int32)), .val (.int (2 : Int32))] [(.ref a3), (.int (2 : Int32))]))
          refine Go.alen C X0 A3 (z := (4 : Int32)) rfl d2_26 ?_
          show Go p e below s n0 _ _ _ (T0.setTop (mkF m 27 #[.val (.ref a1), .val (.ref a2), .val (.ref a3), .val (.int (1 : Int32)), .val (.int (2 : Int32))] [(.int (4 : Int32)), (.int (2 : Int32))]))
          refine Go.icmp_ge C X0 (pc' := 67) d2_27 (by decide) (by decide) (fun hc => absurd hc (by decide)) (fun _ => ?_)
          show Go p e below s n0 _ _ _ (T0.setTop (mkF m 30 #[.val (.ref a1), .val (.ref a2), .val (.ref a3), .val (.int (1 : Int32)), .val (.int (2 : Int32))] []))
          refine Go.st (fun _ => XS.iloadN X0.here C.hx rfl (hb C.hby d2_30) rfl) ?_
          show Go p e below s n0 _ _ _ (T0.setTop (mkF m 31 #[.val (.ref a1), .val (.ref a2), .val (.ref a3), .val (.int (1 : Int32)), .val (.int (2 : Int32))] [(.int (1 : Int32))]))
          refine Go.if_eq C X0 (pc' := 67) d2_31 (by decide) (by decide) (fun hc => absurd hc (by decide)) (fun _ => ?_)
          show Go p e below s n0 _ _ _ (T0.setTop (mkF m 34 #[.val (.ref a1), .val (.ref a2), .val (.ref a3), .val (.int (1 : Int32)), .val (.int (2 : Int32))] []))
          refine Go.st (fun _ => XS.aloadN X0.here C.hx rfl (hb C.hby d2_34) rfl rfl) ?_
          show Go p e below s n0 _ _ _ (T0.setTop (mkF m 35 #[.val (.ref a1), .val (.ref a2), .val (.ref a3), .val (.int (1 : Int32)), .val (.int (2 : Int32))] [(.ref a1)]))
          refine Go.st (fun _ => XS.iload X0.here C.hx rfl (hb C.hby d2_35) rfl) ?_
          show Go p e below s n0 _ _ _ (T0.setTop (mkF m 37 #[.val (.ref a1), .val (.ref a2), .val (.ref a3), .val (.int (1 : Int32)), .val (.int (2 : Int32))] [(.int (2 : Int32)), (.ref a1)]))
          refine Go.baload C X0 A1 (by decide) rfl d2_37 ?_
          show Go p e below s n0 _ _ _ (T0.setTop (mkF m 38 #[.val (.ref a1), .val (.ref a2), .val (.ref a3), .val (.int (1 : Int32)), .val (.int (2 : Int32))] [(.int x2)]))
          refine Go.st (fun _ => XS.aloadN X0.here C.hx rfl (hb C.hby d2_38) rfl rfl) ?_
          show Go p e below s n0 _ _ _ (T0.setTop (mkF m 39 #[.val (.ref a1), .val (.ref a2), .val (.ref a3), .val (.int (1 : Int32)), .val (.int (2 : Int32))] [(.ref a3), (.int x2)]))
          refine Go.st (fun _ => XS.iload X0.here C.hx rfl (hb C.hby d2_39) rfl) ?_
          show Go p e below s n0 _ _ _ (T0.setTop (mkF m 41 #[.val (.ref a1), .val (.ref a2), .val (.ref a3), .val (.int (1 : Int32)), .val (.int (2 : Int32))] [(.int (2 : Int32)), (.ref a3), (.int x2)]))
          refine Go.baload C X0 A3 (by decide) rfl d2_41 ?_
          show Go p e below s n0 _ _ _ (T0.setTop (mkF m 42 #[.val (.ref a1), .val (.ref a2), .val (.ref a3), .val (.int (1 : Int32)), .val (.int (2 : Int32))] [(.int z2), (.int x2)]))
          refine Go.st (fun _ => XS.iand X0.here C.hx rfl (hb C.hby d2_42) rfl) ?_
          show Go p e below s n0 _ _ _ (T0.setTop (mkF m 43 #[.val (.ref a1), .val (.ref a2), .val (.ref a3), .val (.int (1 : Int32)), .val (.int (2 : Int32))] [(.int (x2 &&& z2))]))
          refine Go.st (fun _ => XS.aloadN X0.here C.hx rfl (hb C.hby d2_43) rfl rfl) ?_
          show Go p e below s n0 _ _ _ (T0.setTop (mkF m 44 #[.val (.ref a1), .val (.ref a2), .val (.ref a3), .val (.int (1 : Int32)), .val (.int (2 : Int32))] [(.ref a2), (.int (x2 &&& z2))]))
          refine Go.st (fun _ => XS.iload X0.here C.hx rfl (hb C.hby d2_44) rfl) ?_
          show Go p e below s n0 _ _ _ (T0.setTop (mkF m 46 #[.val (.ref a1), .val (.ref a2), .val (.ref a3), .val (.int (1 : Int32)), .val (.int (2 : Int32))] [(.int (2 : Int32)), (.ref a2), (.int (x2 &&& z2))]))
          refine Go.baload C X0 A2 (by decide) rfl d2_46 ?_
          show Go p e below s n0 _ _ _ (T0.setTop (mkF m 47 #[.val (.ref a1), .val (.ref a2), .val (.ref a3), .val (.int (1 : Int32)), .val (.int (2 : Int32))] [(.int y2), (.int (x2 &&& z2))]))
          refine Go.st (fun _ => XS.aloadN X0.here C.hx rfl (hb C.hby d2_47) rfl rfl) ?_
          show Go p e below s n0 _ _ _ (T0.setTop (mkF m 48 #[.val (.ref a1), .val (.ref a2), .val (.ref a3), .val (.int (1 : Int32)), .val (.int (2 : Int32))] [(.ref a3), (.int y2), (.int (x2 &&& z2))]))
          refine Go.st (fun _ => XS.iload X0.here C.hx rfl (hb C.hby d2_48) rfl) ?_
          show Go p e below s n0 _ _ _ (T0.setTop (mkF m 50 #[.val (.ref a1), .val (.ref a2), .val (.ref a3), .val (.int (1 : Int32)), .val (.int (2 : Int32))] [(.int (2 : Int32)), (.ref a3), (.int y2), (.int (x2 &&& z2))]))
          refine Go.baload C X0 A3 (by decide) rfl d2_50 ?_
          show Go p e below s n0 _ _ _ (T0.setTop (mkF m 51 #[.val (.ref a1), .val (.ref a2), .val (.ref a3), .val (.int (1 : Int32)), .val (.int (2 : Int32))] [(.int z2), (.int y2), (.int (x2 &&& z2))]))
          refine Go.st (fun _ => XS.iand X0.here C.hx rfl (hb C.hby d2_51) rfl) ?_
          show Go p e below s n0 _ _ _ (T0.setTop (mkF m 52 #[.val (.ref a1), .val (.ref a2), .val (.ref a3), .val (.int (1 : Int32)), .val (.int (2 : Int32))] [(.int (y2 &&& z2)), (.int (x2 &&& z2))]))
          refine Go.icmp_ne C X0 (pc' := 59) d2_52 (by decide) (by decide) (fun hc52_193 => ?_) (fun hc52_193 => ?_)
          · show Go p e below s n0 _ _ _ (T0.setTop (mkF m 59 #[.val (.ref a1), .val (.ref a2), .val (.ref a3), .val (.int (1 : Int32)), .val (.int (2 : Int32))] []))
            refine Go.st (fun _ => XS.iconst X0.here C.hx rfl (hb C.hby d2_59)) ?_
            show Go p e below s n0 _ _ _ (T0.setTop (mkF m 60 #[.val (.ref a1), .val (.ref a2), .val (.ref a3), .val (.int (1 : Int32)), .val (.int (2 : Int32))] [(.int (0 : Int32))]))
            refine Go.st (fun _ => XS.istoreN X0.here C.hx rfl (hb C.hby d2_60) rfl (l' := #[.val (.ref a1), .val (.ref a2), .val (.ref a3), .val (.int (0 : Int32)), .val (.int (2 : Int32))]) rfl) ?_
            show Go p e below s n0 _ _ _ (T0.setTop (mkF m 61 #[.val (.ref a1), .val (.ref a2), .val (.ref a3), .val (.int (0 : Int32)), .val (.int (2 : Int32))] []))
            refine Go.st (fun _ => XS.iinc X0.here C.hx rfl (hb C.hby d2_61) rfl (l' := #[.val (.ref a1), .val (.ref a2), .val (.ref a3), .val (.int (0 : Int32)), .val (.int (3 : Int32))]) rfl) ?_
            show Go p e below s n0 _ _ _ (T0.setTop (mkF m 64 #[.val (.ref a1), .val (.ref a2), .val (.ref a3), .val (.int (0 : Int32)), .val (.int (3 : Int32))] []))
            refine Go.st (fun _ => XS.goto X0.here C.hx rfl (pc0 := 64) (pc' := 23) rfl (hb C.hby d2_64) (by decide) (by decide)) ?_
            show Go p e below s n0 _ _ _ (T0.setTop (mkF m 23 #[.val (.ref a1), .val (.ref a2), .val (.ref a3), .val (.int (0 : Int32)), .val (.int (3 : Int32))] []))
            refine Go.st (fun _ => XS.iload X0.here C.hx rfl (hb C.hby d2_23) rfl) ?_
            show Go p e below s n0 _ _ _ (T0.setTop (mkF m 25 #[.val (.ref a1), .val (.ref a2), .val (.ref a3), .val (.int (0 : Int32)), .val (.int (3 : Int32))] [(.int (3 : Int32))]))
            refine Go.st (fun _ => XS.aloadN X0.here C.hx rfl (hb C.hby d2_25) rfl rfl) ?_
            show Go p e below s n0 _ _ _ (T0.setTop (mkF m 26 #[.val (.ref a1), .val (.ref a2), .val (.ref a3), .val (.int (0 : Int32)), .val (.int (3 : Int32))] [(.ref a3), (.int (3 : Int32))]))
            refine Go.alen C X0 A3 (z := (4 : Int32)) rfl d2_26 ?_
            show Go p e below s n0 _ _ _ (T0.setTop (mkF m 27 #[.val (.ref a1), .val (.ref a2), .val (.ref a3), .val (.int (0 : Int32)), .val (.int (3 : Int32))] [(.int (4 : Int32)), (.int (3 : Int32))]))
            refine Go.icmp_ge C X0 (pc' := 67) d2_27 (by decide) (by decide) (fun hc => absurd hc (by decide)) (fun _ => ?_)
            show Go p e below s n0 _ _ _ (T0.setTop (mkF m 30 #[.val (.ref a1), .val (.ref a2), .val (.ref a3), .val (.int (0 : Int32)), .val (.int (3 : Int32))] []))
            refine Go.st (fun _ => XS.iloadN X0.here C.hx rfl (hb C.hby d2_30) rfl) ?_
            show Go p e below s n0 _ _ _ (T0.setTop (mkF m 31 #[.val (.ref a1), .val (.ref a2), .val (.ref a3), .val (.int (0 : Int32)), .val (.int (3 : Int32))] [(.int (0 : Int32))]))
            refine Go.if_eq C X0 (pc' := 67) d2_31 (by decide) (by decide) (fun _ => ?_) (fun hc => absurd hc (by decide))
            show Go p e below s n0 _ _ _ (T0.setTop (mkF m 67 #[.val (.ref a1), .val (.ref a2), .val (.ref a3), .val (.int (0 : Int32)), .val (.int (3 : Int32))] []))
            refine Go.st (fun _ => XS.iloadN X0.here C.hx rfl (hb C.hby d2_67) rfl) ?_
            show Go p e below s n0 _ _ _ (T0.setTop (mkF m 68 #[.val (.ref a1), .val (.ref a2), .val (.ref a3), .val (.int (0 : Int32)), .val (.int (3 : Int32))] [(.int (0 : Int32))]))
            exact Go.retZ C X0 (by decide) d2_68 ⟨by simp [eqmF, eqL, hc52_183, hc52_188, hc52_193], rfl⟩ (by decide) (by decide)
          · show Go p e below s n0 _ _ _ (T0.setTop (mkF m 55 #[.val (.ref a1), .val (.ref a2), .val (.ref a3), .val (.int (1 : Int32)), .val (.int (2 : Int32))] []))
            refine Go.st (fun _ => XS.iconst X0.here C.hx rfl (hb C.hby d2_55)) ?_
            show Go p e below s n0 _ _ _ (T0.setTop (mkF m 56 #[.val (.ref a1), .val (.ref a2), .val (.ref a3), .val (.int (1 : Int32)), .val (.int (2 : Int32))] [(.int (1 : Int32))]))
            refine Go.st (fun _ => XS.goto X0.here C.hx rfl (pc0 := 56) (pc' := 60) rfl (hb C.hby d2_56) (by decide) (by decide)) ?_
            show Go p e below s n0 _ _ _ (T0.setTop (mkF m 60 #[.val (.ref a1), .val (.ref a2), .val (.ref a3), .val (.int (1 : Int32)), .val (.int (2 : Int32))] [(.int (1 : Int32))]))
            refine Go.st (fun _ => XS.istoreN X0.here C.hx rfl (hb C.hby d2_60) rfl (l' := #[.val (.ref a1), .val (.ref a2), .val (.ref a3), .val (.int (1 : Int32)), .val (.int (2 : Int32))]) rfl) ?_
            show Go p e below s n0 _ _ _ (T0.setTop (mkF m 61 #[.val (.ref a1), .val (.ref a2), .val (.ref a3), .val (.int (1 : Int32)), .val (.int (2 : Int32))] []))
            refine Go.st (fun _ => XS.iinc X0.here C.hx rfl (hb C.hby d2_61) rfl (l' := #[.val (.ref a1), .val (.ref a2), .val (.ref a3), .val (.int (1 : Int32)), .val (.int (3 : Int32))]) rfl) ?_
            show Go p e below s n0 _ _ _ (T0.setTop (mkF m 64 #[.val (.ref a1), .val (.ref a2), .val (.ref a3), .val (.int (1 : Int32)), .val (.int (3 : Int32))] []))
            refine Go.st (fun _ => XS.goto X0.here C.hx rfl (pc0 := 64) (pc' := 23) rfl (hb C.hby d2_64) (by decide) (by decide)) ?_
            show Go p e below s n0 _ _ _ (T0.setTop (mkF m 23 #[.val (.ref a1), .val (.ref a2), .val (.ref a3), .val (.int (1 : Int32)), .val (.int (3 : Int32))] []))
            refine Go.st (fun _ => XS.iload X0.here C.hx rfl (hb C.hby d2_23) rfl) ?_
            show Go p e below s n0 _ _ _ (T0.setTop (mkF m 25 #[.val (.ref a1), .val (.ref a2), .val (.ref a3), .val (.int (1 : Int32)), .val (.int (3 : Int32))] [(.int (3 : Int32))]))
            refine Go.st (fun _ => XS.aloadN X0.here C.hx rfl (hb C.hby d2_25) rfl rfl) ?_
            show Go p e below s n0 _ _ _ (T0.setTop (mkF m 26 #[.val (.ref a1), .val (.ref a2), .val (.ref a3), .val (.int (1 : Int32)), .val (.int (3 : Int32))] [(.ref a3), (.int (3 : Int32))]))
            refine Go.alen C X0 A3 (z := (4 : Int32)) rfl d2_26 ?_
            show Go p e below s n0 _ _ _ (T0.setTop (mkF m 27 #[.val (.ref a1), .val (.ref a2), .val (.ref a3), .val (.int (1 : Int32)), .val (.int (3 : Int32))] [(.int (4 : Int32)), (.int (3 : Int32))]))
            refine Go.icmp_ge C X0 (pc' := 67) d2_27 (by decide) (by decide) (fun hc => absurd hc (by decide)) (fun _ => ?_)
            show Go p e below s n0 _ _ _ (T0.setTop (mkF m 30 #[.val (.ref a1), .val (.ref a2), .val (.ref a3), .val (.int (1 : Int32)), .val (.int (3 : Int32))] []))
            refine Go.st (fun _ => XS.iloadN X0.here C.hx rfl (hb C.hby d2_30) rfl) ?_
            show Go p e below s n0 _ _ _ (T0.setTop (mkF m 31 #[.val (.ref a1), .val (.ref a2), .val (.ref a3), .val (.int (1 : Int32)), .val (.int (3 : Int32))] [(.int (1 : Int32))]))
            refine Go.if_eq C X0 (pc' := 67) d2_31 (by decide) (by decide) (fun hc => absurd hc (by decide)) (fun _ => ?_)
            show Go p e below s n0 _ _ _ (T0.setTop (mkF m 34 #[.val (.ref a1), .val (.ref a2), .val (.ref a3), .val (.int (1 : Int32)), .val (.int (3 : Int32))] []))
            refine Go.st (fun _ => XS.aloadN X0.here C.hx rfl (hb C.hby d2_34) rfl rfl) ?_
            show Go p e below s n0 _ _ _ (T0.setTop (mkF m 35 #[.val (.ref a1), .val (.ref a2), .val (.ref a3), .val (.int (1 : Int32)), .val (.int (3 : Int32))] [(.ref a1)]))
            refine Go.st (fun _ => XS.iload X0.here C.hx rfl (hb C.hby d2_35) rfl) ?_
            show Go p e below s n0 _ _ _ (T0.setTop (mkF m 37 #[.val (.ref a1), .val (.ref a2), .val (.ref a3), .val (.int (1 : Int32)), .val (.int (3 : Int32))] [(.int (3 : Int32)), (.ref a1)]))
            refine Go.baload C X0 A1 (by decide) rfl d2_37 ?_
            show Go p e below s n0 _ _ _ (T0.setTop (mkF m 38 #[.val (.ref a1), .val (.ref a2), .val (.ref a3), .val (.int (1 : Int32)), .val (.int (3 : Int32))] [(.int x3)]))
            refine Go.st (fun _ => XS.aloadN X0.here C.hx rfl (hb C.hby d2_38) rfl rfl) ?_
            show Go p e below s n0 _ _ _ (T0.setTop (mkF m 39 #[.val (.ref a1), .val (.ref a2), .val (.ref a3), .val (.int (1 : Int32)), .val (.int (3 : Int32))] [(.ref a3), (.int x3)]))
            refine Go.st (fun _ => XS.iload X0.here C.hx rfl (hb C.hby d2_39) rfl) ?_
            show Go p e below s n0 _ _ _ (T0.setTop (mkF m 41 #[.val (.ref a1), .val (.ref a2), .val (.ref a3), .val (.int (1 : Int32)), .val (.int (3 : Int32))] [(.int (3 : Int32)), (.ref a3), (.int x3)]))
            refine Go.baload C X0 A3 (by decide) rfl d2_41 ?_
            show Go p e below s n0 _ _ _ (T0.setTop (mkF m 42 #[.val (.ref a1), .val (.ref a2), .val (.ref a3), .val (.int (1 : Int32)), .val (.int (3 : Int32))] [(.int z3), (.int x3)]))
            refine Go.st (fun _ => XS.iand X0.here C.hx rfl (hb C.hby d2_42) rfl) ?_
            show Go p e below s n0 _ _ _ (T0.setTop (mkF m 43 #[.val (.ref a1), .val (.ref a2), .val (.ref a3), .val (.int (1 : Int32)), .val (.int (3 : Int32))] [(.int (x3 &&& z3))]))
            refine Go.st (fun _ => XS.aloadN X0.here C.hx rfl (hb C.hby d2_43) rfl rfl) ?_
            show Go p e below s n0 _ _ _ (T0.setTop (mkF m 44 #[.val (.ref a1), .val (.ref a2), .val (.ref a3), .val (.int (1 : Int32)), .val (.int (3 : Int32))] [(.ref a2), (.int (x3 &&& z3))]))
            refine Go.st (fun _ => XS.iload X0.here C.hx rfl (hb C.hby d2_44) rfl) ?_
            show Go p e below s n0 _ _ _ (T0.setTop (mkF m 46 #[.val (.ref a1), .val (.ref a2), .val (.ref a3), .val (.int (1 : Int32)), .val (.int (3 : Int32))] [(.int (3 : Int32)), (.ref a2), (.int (x3 &&& z3))]))
            refine Go.baload C X0 A2 (by decide) rfl d2_46 ?_
            show Go p e below s n0 _ _ _ (T0.setTop (mkF m 47 #[.val (.ref a1), .val (.ref a2), .val (.ref a3), .val (.int (1 : Int32)), .val (.int (3 : Int32))] [(.int y3), (.int (x3 &&& z3))]))
            refine Go.st (fun _ => XS.aloadN X0.here C.hx rfl (hb C.hby d2_47) rfl rfl) ?_
            show Go p e below s n0 _ _ _ (T0.setTop (mkF m 48 #[.val (.ref a1), .val (.ref a2), .val (.ref a3), .val (.int (1 : Int32)), .val (.int (3 : Int32))] [(.ref a3), (.int y3), (.int (x3 &&& z3))]))
            refine Go.st (fun _ => XS.iload X0.here C.hx rfl (hb C.hby d2_48) rfl) ?_
            show Go p e below s n0 _ _ _ (T0.setTop (mkF m 50 #[.val (.ref a1), .val (.ref a2), .val (.ref a3), .val (.int (1 : Int32)), .val (.int (3 : Int32))] [(.int (3 : Int32)), (.ref a3), (.int y3), (.int (x3 &&& z3))]))
            refine Go.baload C X0 A3 (by decide) rfl d2_50 ?_
            show Go p e below s n0 _ _ _ (T0.setTop (mkF m 51 #[.val (.ref a1), .val (.ref a2), .val (.ref a3), .val (.int (1 : Int32)), .val (.int (3 : Int32))] [(.int z3), (.int y3), (.int (x3 &&& z3))]))
            refine Go.st (fun _ => XS.iand X0.here C.hx rfl (hb C.hby d2_51) rfl) ?_
            show Go p e below s n0 _ _ _ (T0.setTop (mkF m 52 #[.val (.ref a1), .val (.ref a2), .val (.ref a3), .val (.int (1 : Int32)), .val (.int (3 : Int32))] [(.int (y3 &&& z3)), (.int (x3 &&& z3))]))
            refine Go.icmp_ne C X0 (pc' := 59) d2_52 (by decide) (by decide) (fun hc52_198 => ?_) (fun hc52_198 => ?_)
            · show Go p e below s n0 _ _ _ (T0.setTop (mkF m 59 #[.val (.ref a1), .val (.ref a2), .val (.ref a3), .val (.int (1 : Int32)), .val (.int (3 : Int32))] []))
              refine Go.st (fun _ => XS.iconst X0.here C.hx rfl (hb C.hby d2_59)) ?_
              show Go p e below s n0 _ _ _ (T0.setTop (mkF m 60 #[.val (.ref a1), .val (.ref a2), .val (.ref a3), .val (.int (1 : Int32)), .val (.int (3 : Int32))] [(.int (0 : Int32))]))
              refine Go.st (fun _ => XS.istoreN X0.here C.hx rfl (hb C.hby d2_60) rfl (l' := #[.val (.ref a1), .val (.ref a2), .val (.ref a3), .val (.int (0 : Int32)), .val (.int (3 : Int32))]) rfl) ?_
              show Go p e below s n0 _ _ _ (T0.setTop (mkF m 61 #[.val (.ref a1), .val (.ref a2), .val (.ref a3), .val (.int (0 : Int32)), .val (.int (3 : Int32))] []))
              refine Go.st (fun _ => XS.iinc X0.here C.hx rfl (hb C.hby d2_61) rfl (l' := #[.val (.ref a1), .val (.ref a2), .val (.ref a3), .val (.int (0 : Int32)), .val (.int (4 : Int32))]) rfl) ?_
              show Go p e below s n0 _ _ _ (T0.setTop (mkF m 64 #[.val (.ref a1), .val (.ref a2), .val (.ref a3), .val (.int (0 : Int32)), .val (.int (4 : Int32))] []))
              refine Go.st (fun _ => XS.goto X0.here C.hx rfl (pc0 := 64) (pc' := 23) rfl (hb C.hby d2_64) (by decide) (by decide)) ?_
              show Go p e below s n0 _ _ _ (T0.setTop (mkF m 23 #[.val (.ref a1), .val (.ref a2), .val (.ref a3), .val (.int (0 : Int32)), .val (.int (4 : Int32))] []))
              refine Go.st (fun _ => XS.iload X0.here C.hx rfl (hb C.hby d2_23) rfl) ?_
              show Go p e below s n0 _ _ _ (T0.setTop (mkF m 25 #[.val (.ref a1), .val (.ref a2), .val (.ref a3), .val (.int (0 : Int32)), .val (.int (4 : Int32))] [(.int (4 : Int32))]))
              refine Go.st (fun _ => XS.aloadN X0.here C.hx rfl (hb C.hby d2_25) rfl rfl) ?_
              show Go p e below s n0 _ _ _ (T0.setTop (mkF m 26 #[.val (.ref a1), .val (.ref a2), .val (.ref a3), .val (.int (0 : Int32)), .val (.int (4 : Int32))] [(.ref a3), (.int (4 : Int32))]))
              refine Go.alen C X0 A3 (z := (4 : Int32)) rfl d2_26 ?_
              show Go p e below s n0 _ _ _ (T0.setTop (mkF m 27 #[.val (.ref a1), .val (.ref a2), .val (.ref a3), .val (.int (0 : Int32)), .val (.int (4 : Int32))] [(.int (4 : Int32)), (.int (4 : Int32))]))
              refine Go.icmp_ge C X0 (pc' := 67) d2_27 (by decide) (by decide) (fun _ => ?_) (fun hc => absurd hc (by decide))
              show Go p e below s n0 _ _ _ (T0.setTop (mkF m 67 #[.val (.ref a1), .val (.ref a2), .val (.ref a3), .val (.int (0 : Int32)), .val (.int (4 : Int32))] []))
              refine Go.st (fun _ => XS.iloadN X0.here C.hx rfl (hb C.hby d2_67) rfl) ?_
              show Go p e below s n0 _ _ _ (T0.setTop (mkF m 68 #[.val (.ref a1), .val (.ref a2), .val (.ref a3), .val (.int (0 : Int32)), .val (.int (4 : Int32))] [(.int (0 : Int32))]))
              exact Go.retZ C X0 (by decide) d2_68 ⟨by simp [eqmF, eqL, hc52_183, hc52_188, hc52_193, hc52_198], rfl⟩ (by decide) (by decide)
            · show Go p e below s n0 _ _ _ (T0.setTop (mkF m 55 #[.val (.ref a1), .val (.ref a2), .val (.ref a3), .val (.int (1 : Int32)), .val (.int (3 : Int32))] []))
              refine Go.st (fun _ => XS.iconst X0.here C.hx rfl (hb C.hby d2_55)) ?_
              show Go p e below s n0 _ _ _ (T0.setTop (mkF m 56 #[.val (.ref a1), .val (.ref a2), .val (.ref a3), .val (.int (1 : Int32)), .val (.int (3 : Int32))] [(.int (1 : Int32))]))
              refine Go.st (fun _ => XS.goto X0.here C.hx rfl (pc0 := 56) (pc' := 60) rfl (hb C.hby d2_56) (by decide) (by decide)) ?_
              show Go p e below s n0 _ _ _ (T0.setTop (mkF m 60 #[.val (.ref a1), .val (.ref a2), .val (.ref a3), .val (.int (1 : Int32)), .val (.int (3 : Int32))] [(.int (1 : Int32))]))
              refine Go.st (fun _ => XS.istoreN X0.here C.hx rfl (hb C.hby d2_60) rfl (l' := #[.val (.ref a1), .val (.ref a2), .val (.ref a3), .val (.int (1 : Int32)), .val (.int (3 : Int32))]) rfl) ?_
              show Go p e below s n0 _ _ _ (T0.setTop (mkF m 61 #[.val (.ref a1), .val (.ref a2), .val (.ref a3), .val (.int (1 : Int32)), .val (.int (3 : Int32))] []))
              refine Go.st (fun _ => XS.iinc X0.here C.hx rfl (hb C.hby d2_61) rfl (l' := #[.val (.ref a1), .val (.ref a2), .val (.ref a3), .val (.int (1 : Int32)), .val (.int (4 : Int32))]) rfl) ?_
              show Go p e below s n0 _ _ _ (T0.setTop (mkF m 64 #[.val (.ref a1), .val (.ref a2), .val (.ref a3), .val (.int (1 : Int32)), .val (.int (4 : Int32))] []))
              refine Go.st (fun _ => XS.goto X0.here C.hx rfl (pc0 := 64) (pc' := 23) rfl (hb C.hby d2_64) (by decide) (by decide)) ?_
              show Go p e below s n0 _ _ _ (T0.setTop (mkF m 23 #[.val (.ref a1), .val (.ref a2), .val (.ref a3), .val (.int (1 : Int32)), .val (.int (4 : Int32))] []))
              refine Go.st (fun _ => XS.iload X0.here C.hx rfl (hb C.hby d2_23) rfl) ?_
              show Go p e below s n0 _ _ _ (T0.setTop (mkF m 25 #[.val (.ref a1), .val (.ref a2), .val (.ref a3), .val (.int (1 : Int32)), .val (.int (4 : Int32))] [(.int (4 : Int32))]))
              refine Go.st (fun _ => XS.aloadN X0.here C.hx rfl (hb C.hby d2_25) rfl rfl) ?_
              show Go p e below s n0 _ _ _ (T0.setTop (mkF m 26 #[.val (.ref a1), .val (.ref a2), .val (.ref a3), .val (.int (1 : Int32)), .val (.int (4 : Int32))] [(.ref a3), (.int (4 : Int32))]))
              refine Go.alen C X0 A3 (z := (4 : Int32)) rfl d2_26 ?_
              show Go p e below s n0 _ _ _ (T0.setTop (mkF m 27 #[.val (.ref a1), .val (.ref a2), .val (.ref a3), .val (.int (1 : Int32)), .val (.int (4 : Int32))] [(.int (4 : Int32)), (.int (4 : Int32))]))
              refine Go.icmp_ge C X0 (pc' := 67) d2_27 (by decide) (by decide) (fun _ => ?_) (fun hc => absurd hc (by decide))
              show Go p e below s n0 _ _ _ (T0.setTop (mkF m 67 #[.val (.ref a1), .val (.ref a2), .val (.ref a3), .val (.int (1 : Int32)), .val (.int (4 : Int32))] []))
              refine Go.st (fun _ => XS.iloadN X0.here C.hx rfl (hb C.hby d2_67) rfl) ?_
              show Go p e below s n0 _ _ _ (T0.setTop (mkF m 68 #[.val (.ref a1), .val (.ref a2), .val (.ref a3), .val (.int (1 : Int32)), .val (.int (4 : Int32))] [(.int (1 : Int32))]))
              exact Go.retZ C X0 (by decide) d2_68 ⟨by simp [eqmF, eqL, hc52_183, hc52_188, hc52_193, hc52_198], rfl⟩ (by decide) (by decide)
  · show Go p e below s n0 _ _ _ (T0.setTop (mkF m 0 #[.val (.ref a1), .val (.ref a2), .val (.ref a3), .unset, .unset] []))
    refine Go.st (fun _ => XS.aloadN X0.here C.hx rfl (hb C.hby d2_0) rfl rfl) ?_
    show Go p e below s n0 _ _ _ (T0.setTop (mkF m 1 #[.val (.ref a1), .val (.ref a2), .val (.ref a3), .unset, .unset] [(.ref a1)]))
    refine Go.alen C X0 A1 (z := xs.length.toInt32) (by simp) d2_1 ?_
    show Go p e below s n0 _ _ _ (T0.setTop (mkF m 2 #[.val (.ref a1), .val (.ref a2), .val (.ref a3), .unset, .unset] [(.int xs.length.toInt32)]))
    refine Go.st (fun _ => XS.aloadN X0.here C.hx rfl (hb C.hby d2_2) rfl rfl) ?_
    show Go p e below s n0 _ _ _ (T0.setTop (mkF m 3 #[.val (.ref a1), .val (.ref a2), .val (.ref a3), .unset, .unset] [(.ref a2), (.int xs.length.toInt32)]))
    refine Go.alen C X0 A2 (z := ys.length.toInt32) (by simp) d2_3 ?_
    show Go p e below s n0 _ _ _ (T0.setTop (mkF m 4 #[.val (.ref a1), .val (.ref a2), .val (.ref a3), .unset, .unset] [(.int ys.length.toInt32), (.int xs.length.toInt32)]))
    refine Go.icmp_ne C X0 (pc' := 18) d2_4 (by decide) (by decide) (fun hc4_201 => ?_) (fun hc4_201 => ?_)
    · show Go p e below s n0 _ _ _ (T0.setTop (mkF m 18 #[.val (.ref a1), .val (.ref a2), .val (.ref a3), .unset, .unset] []))
      refine Go.st (fun _ => XS.iconst X0.here C.hx rfl (hb C.hby d2_18)) ?_
      show Go p e below s n0 _ _ _ (T0.setTop (mkF m 19 #[.val (.ref a1), .val (.ref a2), .val (.ref a3), .unset, .unset] [(.int (0 : Int32))]))
      refine Go.st (fun _ => XS.istoreN X0.here C.hx rfl (hb C.hby d2_19) rfl (l' := #[.val (.ref a1), .val (.ref a2), .val (.ref a3), .val (.int (0 : Int32)), .unset]) rfl) ?_
      show Go p e below s n0 _ _ _ (T0.setTop (mkF m 20 #[.val (.ref a1), .val (.ref a2), .val (.ref a3), .val (.int (0 : Int32)), .unset] []))
      refine Go.st (fun _ => XS.iconst X0.here C.hx rfl (hb C.hby d2_20)) ?_
      show Go p e below s n0 _ _ _ (T0.setTop (mkF m 21 #[.val (.ref a1), .val (.ref a2), .val (.ref a3), .val (.int (0 : Int32)), .unset] [(.int (0 : Int32))]))
      refine Go.st (fun _ => XS.istore X0.here C.hx rfl (hb C.hby d2_21) rfl (l' := #[.val (.ref a1), .val (.ref a2), .val (.ref a3), .val (.int (0 : Int32)), .val (.int (0 : Int32))]) rfl) ?_
      show Go p e below s n0 _ _ _ (T0.setTop (mkF m 23 #[.val (.ref a1), .val (.ref a2), .val (.ref a3), .val (.int (0 : Int32)), .val (.int (0 : Int32))] []))
      refine Go.st (fun _ => XS.iload X0.here C.hx rfl (hb C.hby d2_23) rfl) ?_
      show Go p e below s n0 _ _ _ (T0.setTop (mkF m 25 #[.val (.ref a1), .val (.ref a2), .val (.ref a3), .val (.int (0 : Int32)), .val (.int (0 : Int32))] [(.int (0 : Int32))]))
      refine Go.st (fun _ => XS.aloadN X0.here C.hx rfl (hb C.hby d2_25) rfl rfl) ?_
      show Go p e below s n0 _ _ _ (T0.setTop (mkF m 26 #[.val (.ref a1), .val (.ref a2), .val (.ref a3), .val (.int (0 : Int32)), .val (.int (0 : Int32))] [(.ref a3), (.int (0 : Int32))]))
      refine Go.alen C X0 A3 (z := zs.length.toInt32) (by simp) d2_26 ?_
      show Go p e below s n0 _ _ _ (T0.setTop (mkF m 27 #[.val (.ref a1), .val (.ref a2), .val (.ref a3), .val (.int (0 : Int32)), .val (.int (0 : Int32))] [(.int zs.length.toInt32), (.int (0 : Int32))]))
      refine Go.icmp_ge C X0 (pc' := 67) d2_27 (by decide) (by decide) (fun hc27_202 => ?_) (fun hc27_202 => ?_)
      · show Go p e below s n0 _ _ _ (T0.setTop (mkF m 67 #[.val (.ref a1), .val (.ref a2), .val (.ref a3), .val (.int (0 : Int32)), .val (.int (0 : Int32))] []))
        refine Go.st (fun _ => XS.iloadN X0.here C.hx rfl (hb C.hby d2_67) rfl) ?_
        show Go p e below s n0 _ _ _ (T0.setTop (mkF m 68 #[.val (.ref a1), .val (.ref a2), .val (.ref a3), .val (.int (0 : Int32)), .val (.int (0 : Int32))] [(.int (0 : Int32))]))
        exact Go.retZ C X0 (by decide) d2_68 ⟨by unfold eqmF; rw [if_neg (fun r => hq ⟨r.1, r.2.1⟩)], rfl⟩ (by decide) (by decide)
      · show Go p e below s n0 _ _ _ (T0.setTop (mkF m 30 #[.val (.ref a1), .val (.ref a2), .val (.ref a3), .val (.int (0 : Int32)), .val (.int (0 : Int32))] []))
        refine Go.st (fun _ => XS.iloadN X0.here C.hx rfl (hb C.hby d2_30) rfl) ?_
        show Go p e below s n0 _ _ _ (T0.setTop (mkF m 31 #[.val (.ref a1), .val (.ref a2), .val (.ref a3), .val (.int (0 : Int32)), .val (.int (0 : Int32))] [(.int (0 : Int32))]))
        refine Go.if_eq C X0 (pc' := 67) d2_31 (by decide) (by decide) (fun _ => ?_) (fun hc => absurd hc (by decide))
        show Go p e below s n0 _ _ _ (T0.setTop (mkF m 67 #[.val (.ref a1), .val (.ref a2), .val (.ref a3), .val (.int (0 : Int32)), .val (.int (0 : Int32))] []))
        refine Go.st (fun _ => XS.iloadN X0.here C.hx rfl (hb C.hby d2_67) rfl) ?_
        show Go p e below s n0 _ _ _ (T0.setTop (mkF m 68 #[.val (.ref a1), .val (.ref a2), .val (.ref a3), .val (.int (0 : Int32)), .val (.int (0 : Int32))] [(.int (0 : Int32))]))
        exact Go.retZ C X0 (by decide) d2_68 ⟨by unfold eqmF; rw [if_neg (fun r => hq ⟨r.1, r.2.1⟩)], rfl⟩ (by decide) (by decide)
    · show Go p e below s n0 _ _ _ (T0.setTop (mkF m 7 #[.val (.ref a1), .val (.ref a2), .val (.ref a3), .unset, .unset] []))
      refine Go.st (fun _ => XS.aloadN X0.here C.hx rfl (hb C.hby d2_7) rfl rfl) ?_
      show Go p e below s n0 _ _ _ (T0.setTop (mkF m 8 #[.val (.ref a1), .val (.ref a2), .val (.ref a3), .unset, .unset] [(.ref a1)]))
      refine Go.alen C X0 A1 (z := xs.length.toInt32) (by simp) d2_8 ?_
      show Go p e below s n0 _ _ _ (T0.setTop (mkF m 9 #[.val (.ref a1), .val (.ref a2), .val (.ref a3), .unset, .unset] [(.int xs.length.toInt32)]))
      refine Go.st (fun _ => XS.aloadN X0.here C.hx rfl (hb C.hby d2_9) rfl rfl) ?_
      show Go p e below s n0 _ _ _ (T0.setTop (mkF m 10 #[.val (.ref a1), .val (.ref a2), .val (.ref a3), .unset, .unset] [(.ref a3), (.int xs.length.toInt32)]))
      refine Go.alen C X0 A3 (z := zs.length.toInt32) (by simp) d2_10 ?_
      show Go p e below s n0 _ _ _ (T0.setTop (mkF m 11 #[.val (.ref a1), .val (.ref a2), .val (.ref a3), .unset, .unset] [(.int zs.length.toInt32), (.int xs.length.toInt32)]))
      refine Go.icmp_ne C X0 (pc' := 18) d2_11 (by decide) (by decide) (fun hc11_204 => ?_) (fun hc11_204 => ?_)
      · show Go p e below s n0 _ _ _ (T0.setTop (mkF m 18 #[.val (.ref a1), .val (.ref a2), .val (.ref a3), .unset, .unset] []))
        refine Go.st (fun _ => XS.iconst X0.here C.hx rfl (hb C.hby d2_18)) ?_
        show Go p e below s n0 _ _ _ (T0.setTop (mkF m 19 #[.val (.ref a1), .val (.ref a2), .val (.ref a3), .unset, .unset] [(.int (0 : Int32))]))
        refine Go.st (fun _ => XS.istoreN X0.here C.hx rfl (hb C.hby d2_19) rfl (l' := #[.val (.ref a1), .val (.ref a2), .val (.ref a3), .val (.int (0 : Int32)), .unset]) rfl) ?_
        show Go p e below s n0 _ _ _ (T0.setTop (mkF m 20 #[.val (.ref a1), .val (.ref a2), .val (.ref a3), .val (.int (0 : Int32)), .unset] []))
        refine Go.st (fun _ => XS.iconst X0.here C.hx rfl (hb C.hby d2_20)) ?_
        show Go p e below s n0 _ _ _ (T0.setTop (mkF m 21 #[.val (.ref a1), .val (.ref a2), .val (.ref a3), .val (.int (0 : Int32)), .unset] [(.int (0 : Int32))]))
        refine Go.st (fun _ => XS.istore X0.here C.hx rfl (hb C.hby d2_21) rfl (l' := #[.val (.ref a1), .val (.ref a2), .val (.ref a3), .val (.int (0 : Int32)), .val (.int (0 : Int32))]) rfl) ?_
        show Go p e below s n0 _ _ _ (T0.setTop (mkF m 23 #[.val (.ref a1), .val (.ref a2), .val (.ref a3), .val (.int (0 : Int32)), .val (.int (0 : Int32))] []))
        refine Go.st (fun _ => XS.iload X0.here C.hx rfl (hb C.hby d2_23) rfl) ?_
        show Go p e below s n0 _ _ _ (T0.setTop (mkF m 25 #[.val (.ref a1), .val (.ref a2), .val (.ref a3), .val (.int (0 : Int32)), .val (.int (0 : Int32))] [(.int (0 : Int32))]))
        refine Go.st (fun _ => XS.aloadN X0.here C.hx rfl (hb C.hby d2_25) rfl rfl) ?_
        show Go p e below s n0 _ _ _ (T0.setTop (mkF m 26 #[.val (.ref a1), .val (.ref a2), .val (.ref a3), .val (.int (0 : Int32)), .val (.int (0 : Int32))] [(.ref a3), (.int (0 : Int32))]))
        refine Go.alen C X0 A3 (z := zs.length.toInt32) (by simp) d2_26 ?_
        show Go p e below s n0 _ _ _ (T0.setTop (mkF m 27 #[.val (.ref a1), .val (.ref a2), .val (.ref a3), .val (.int (0 : Int32)), .val (.int (0 : Int32))] [(.int zs.length.toInt32), (.int (0 : Int32))]))
        refine Go.icmp_ge C X0 (pc' := 67) d2_27 (by decide) (by decide) (fun hc27_205 => ?_) (fun hc27_205 => ?_)
        · show Go p e below s n0 _ _ _ (T0.setTop (mkF m 67 #[.val (.ref a1), .val (.ref a2), .val (.ref a3), .val (.int (0 : Int32)), .val (.int (0 : Int32))] []))
          refine Go.st (fun _ => XS.iloadN X0.here C.hx rfl (hb C.hby d2_67) rfl) ?_
          show Go p e below s n0 _ _ _ (T0.setTop (mkF m 68 #[.val (.ref a1), .val (.ref a2), .val (.ref a3), .val (.int (0 : Int32)), .val (.int (0 : Int32))] [(.int (0 : Int32))]))
          exact Go.retZ C X0 (by decide) d2_68 ⟨by unfold eqmF; rw [if_neg (fun r => hq ⟨r.1, r.2.1⟩)], rfl⟩ (by decide) (by decide)
        · show Go p e below s n0 _ _ _ (T0.setTop (mkF m 30 #[.val (.ref a1), .val (.ref a2), .val (.ref a3), .val (.int (0 : Int32)), .val (.int (0 : Int32))] []))
          refine Go.st (fun _ => XS.iloadN X0.here C.hx rfl (hb C.hby d2_30) rfl) ?_
          show Go p e below s n0 _ _ _ (T0.setTop (mkF m 31 #[.val (.ref a1), .val (.ref a2), .val (.ref a3), .val (.int (0 : Int32)), .val (.int (0 : Int32))] [(.int (0 : Int32))]))
          refine Go.if_eq C X0 (pc' := 67) d2_31 (by decide) (by decide) (fun _ => ?_) (fun hc => absurd hc (by decide))
          show Go p e below s n0 _ _ _ (T0.setTop (mkF m 67 #[.val (.ref a1), .val (.ref a2), .val (.ref a3), .val (.int (0 : Int32)), .val (.int (0 : Int32))] []))
          refine Go.st (fun _ => XS.iloadN X0.here C.hx rfl (hb C.hby d2_67) rfl) ?_
          show Go p e below s n0 _ _ _ (T0.setTop (mkF m 68 #[.val (.ref a1), .val (.ref a2), .val (.ref a3), .val (.int (0 : Int32)), .val (.int (0 : Int32))] [(.int (0 : Int32))]))
          exact Go.retZ C X0 (by decide) d2_68 ⟨by unfold eqmF; rw [if_neg (fun r => hq ⟨r.1, r.2.1⟩)], rfl⟩ (by decide) (by decide)
      · exact absurd ⟨len32 l1 l2 hc4_201, len32 l1 l3 hc11_204⟩ hq
theorem pf_0 : plainFor x = true := plainFor_of_name (by first | (simp [plainName, overriddenIn]; done) | decide +kernel)
theorem pd_0 : parseMethodDescriptor "(IIIII)Z" = some ⟨[.int, .int, .int, .int, .int], some .boolean⟩ := by decide +kernel
theorem r5 (x : Int32) : R5 ((x &&& (7 : Int32)) % (5 : Int32)) := by
  have h := (c_and x 7 (by decide)).1
  have q := (c_irem (x &&& (7 : Int32)) 5 5 rfl).1 h
  unfold R5
  simp only [← Int32.toInt_inj, q]
  have h0 : (0 : Int32).toInt = 0 := rfl
  have h1 : (1 : Int32).toInt = 1 := rfl
  have h2 : (2 : Int32).toInt = 2 := rfl
  have h3 : (3 : Int32).toInt = 3 := rfl
  have h4 : (4 : Int32).toInt = 4 := rfl
  omega
theorem bl4 (x k : Int32) : (bl x k).length ≤ 4 := by
  unfold bl; rw [List.length_take]; exact Nat.min_le_right _ _
theorem blen (x k : Int32) (h : R5 k) : (bl x k).length = k.toNatClampNeg := by
  rcases h with rfl | rfl | rfl | rfl | rfl <;> rfl
theorem cl5 {a b : Int32} (ha : R5 a) (hb : R5 b) (h : a.toNatClampNeg = b.toNatClampNeg) : a = b := by
  rcases ha with rfl | rfl | rfl | rfl | rfl <;> rcases hb with rfl | rfl | rfl | rfl | rfl <;> first | rfl | (exact absurd h (by decide))
theorem nar2 (x : Int32) : nar .byte x.toInt8.toInt32 = x.toInt8.toInt32 := by
  show x.toInt8.toInt32.toInt8.toInt32 = _
  rw [Int8.toInt8_toInt32]
theorem bitB (x : Int32) (j : Nat) (hj : j < 32) : (x.toInt8.toInt32).toBitVec.getLsbD j = x.toBitVec.getLsbD (min j 7) := by
  show ((x.toBitVec.signExtend 8).signExtend 32).getLsbD j = _
  rw [BitVec.getLsbD_signExtend, BitVec.msb_eq_getLsbD_last, BitVec.getLsbD_signExtend, BitVec.getLsbD_signExtend]
  by_cases q : j < 8
  · have : min j 7 = j := by omega
    simp [hj, q, this, show j < 32 by omega]
  · have : min j 7 = 7 := by omega
    simp [hj, q, this]
theorem shB (x q : Int32) (k : Nat) (hk : q.toBitVec.toNat % 32 = k) : (x >>> (q &&& 31)).toBitVec = x.toBitVec.sshiftRight k := by
  show x.toBitVec.sshiftRight' ((q &&& 31).toBitVec.smod 32) = _
  rw [BitVec.sshiftRight_eq', sm32 q k hk]
theorem bitS (x q : Int32) (i j : Nat) (hi : i < 4) (hk : q.toBitVec.toNat % 32 = 8 * i) (hj : j < 32) : ((x >>> (q &&& 31)).toInt8.toInt32).toBitVec.getLsbD j = x.toBitVec.getLsbD (8 * i + min j 7) := by
  rw [bitB _ j hj, shB x q (8 * i) hk, BitVec.getLsbD_sshiftRight]
  have h1 : ¬ 32 ≤ min j 7 := by omega
  have h2 : 8 * i + min j 7 < 32 := by omega
  simp [h1, h2]
def byV (x : Int32) (i : Nat) : Int32 := [x.toInt8.toInt32, (x >>> ((8 : Int32) &&& 31)).toInt8.toInt32, (x >>> ((16 : Int32) &&& 31)).toInt8.toInt32, (x >>> ((24 : Int32) &&& 31)).toInt8.toInt32].getD i 0
theorem byVbit (x : Int32) (i j : Nat) (hi : i < 4) (hj : j < 32) : (byV x i).toBitVec.getLsbD j = x.toBitVec.getLsbD (8 * i + min j 7) := by
  match i, hi with
  | 0, _ => have := bitB x j hj; simpa [byV] using this
  | 1, h => exact bitS x 8 1 j h (by decide) hj
  | 2, h => exact bitS x 16 2 j h (by decide) hj
  | 3, h => exact bitS x 24 3 j h (by decide) hj
theorem byteEq (v e m : Int32) (i : Nat) (hi : i < 4) : ((byV v i &&& byV m i) = (byV e i &&& byV m i)) ↔ ∀ k, 8 * i ≤ k → k < 8 * i + 8 → ((v ^^^ e) &&& m).toBitVec.getLsbD k = false := by
  rw [← Int32.toBitVec_inj]
  constructor
  · intro h k h1 h2
    have q := congrArg (fun z => z.getLsbD (k - 8 * i)) h
    simp only [Int32.toBitVec_and, BitVec.getLsbD_and, byVbit _ i _ hi (show k - 8 * i < 32 by omega)] at q
    have : 8 * i + min (k - 8 * i) 7 = k := by omega
    rw [this] at q
    simp only [Int32.toBitVec_and, Int32.toBitVec_xor, BitVec.getLsbD_and, BitVec.getLsbD_xor]
    revert q
    cases v.toBitVec.getLsbD k <;> cases e.toBitVec.getLsbD k <;> cases m.toBitVec.getLsbD k <;> simp
  · intro h
    apply BitVec.eq_of_getLsbD_eq
    intro j hj
    have q := h (8 * i + min j 7) (by omega) (by omega)
    simp only [Int32.toBitVec_and, Int32.toBitVec_xor, BitVec.getLsbD_and, BitVec.getLsbD_xor] at q
    simp only [Int32.toBitVec_and, BitVec.getLsbD_and, byVbit _ i j hi hj]
    revert q
    cases v.toBitVec.getLsbD (8 * i + min j 7) <;> cases e.toBitVec.getLsbD (8 * i + min j 7) <;> cases m.toBitVec.getLsbD (8 * i + min j 7) <;> simp
theorem lowEq (x M : Int32) (n : Nat) (hn : n ≤ 4) (hM : ∀ k, k < 32 → M.toBitVec.getLsbD k = decide (k < 8 * n)) : (x &&& M) = 0 ↔ ∀ k, k < 8 * n → x.toBitVec.getLsbD k = false := by
  rw [← Int32.toBitVec_inj]
  constructor
  · intro h k hk
    have q := congrArg (fun z => z.getLsbD k) h
    simp only [Int32.toBitVec_and, BitVec.getLsbD_and, hM k (by omega), hk, decide_true, Bool.and_true] at q
    rw [q]
    exact BitVec.getLsbD_zero
  · intro h
    apply BitVec.eq_of_getLsbD_eq
    intro k hk
    rw [Int32.toBitVec_and, BitVec.getLsbD_and, hM k hk]
    have z : (0 : Int32).toBitVec.getLsbD k = false := BitVec.getLsbD_zero
    rw [z]
    by_cases q : k < 8 * n
    · rw [h k q]; rfl
    · simp [q]
theorem eqLn (v e m : Int32) (n : Int32) (hn : R5 n) : eqL (bl v n) (bl e n) (bl m n) = true ↔ (((v ^^^ e) &&& m) &&& lowF n) = 0 := by
  have b : ∀ i, i < 4 → (((byV v i &&& byV m i) = (byV e i &&& byV m i)) ↔ ∀ k, 8 * i ≤ k → k < 8 * i + 8 → ((v ^^^ e) &&& m).toBitVec.getLsbD k = false) := fun i hi => byteEq v e m i hi
  have hM : ∀ (M : Int32) (n : Nat), (∀ k : Fin 32, M.toBitVec.getLsbD k.1 = decide (k.1 < 8 * n)) → ∀ k, k < 32 → M.toBitVec.getLsbD k = decide (k < 8 * n) := fun M n h k hk => h ⟨k, hk⟩
  have b0 := b 0 (by decide); have b1 := b 1 (by decide); have b2 := b 2 (by decide); have b3 := b 3 (by decide)
  simp only [byV, List.getD_cons_zero, List.getD_cons_succ] at b0 b1 b2 b3
  rcases hn with rfl | rfl | rfl | rfl | rfl
  · rw [lowEq _ (lowF 0) 0 (by decide) (hM _ _ (by decide +kernel))]
    refine ⟨fun _ k hk => absurd hk (by omega), fun _ => rfl⟩
  · rw [lowEq _ (lowF 1) 1 (by decide) (hM _ _ (by decide +kernel))]
    show (decide _ && true) = true ↔ _
    simp only [nar2, Bool.and_true, decide_eq_true_eq, b0]
    exact ⟨fun h k hk => h k (by omega) (by omega), fun h k h1 h2 => h k (by omega)⟩
  · rw [lowEq _ (lowF 2) 2 (by decide) (hM _ _ (by decide +kernel))]
    show (decide _ && (decide _ && true)) = true ↔ _
    simp only [nar2, Bool.and_true, Bool.and_eq_true, decide_eq_true_eq, b0, b1]
    refine ⟨fun h k hk => ?_, fun h => ⟨fun k h1 h2 => h k (by omega), fun k h1 h2 => h k (by omega)⟩⟩
    by_cases q : k < 8
    · exact h.1 k (by omega) (by omega)
    · exact h.2 k (by omega) (by omega)
  · rw [lowEq _ (lowF 3) 3 (by decide) (hM _ _ (by decide +kernel))]
    show (decide _ && (decide _ && (decide _ && true))) = true ↔ _
    simp only [nar2, Bool.and_true, Bool.and_eq_true, decide_eq_true_eq, b0, b1, b2]
    refine ⟨fun h k hk => ?_, fun h => ⟨fun k h1 h2 => h k (by omega), fun k h1 h2 => h k (by omega), fun k h1 h2 => h k (by omega)⟩⟩
    by_cases q : k < 8
    · exact h.1 k (by omega) (by omega)
    · by_cases q2 : k < 16
      · exact h.2.1 k (by omega) (by omega)
      · exact h.2.2 k (by omega) (by omega)
  · rw [lowEq _ (lowF 4) 4 (by decide) (hM _ _ (by decide +kernel))]
    show (decide _ && (decide _ && (decide _ && (decide _ && true)))) = true ↔ _
    simp only [nar2, Bool.and_true, Bool.and_eq_true, decide_eq_true_eq, b0, b1, b2, b3]
    refine ⟨fun h k hk => ?_, fun h => ⟨fun k h1 h2 => h k (by omega), fun k h1 h2 => h k (by omega), fun k h1 h2 => h k (by omega), fun k h1 h2 => h k (by omega)⟩⟩
    by_cases q : k < 8
    · exact h.1 k (by omega) (by omega)
    · by_cases q2 : k < 16
      · exact h.2.1 k (by omega) (by omega)
      · by_cases q3 : k < 24
        · exact h.2.2.1 k (by omega) (by omega)
        · exact h.2.2.2 k (by omega) (by omega)
theorem key (v e m lv le n : Int32) (h1 : R5 lv) (h2 : R5 le) (h3 : R5 n) : eqmF (bl v lv) (bl e le) (bl m n) = if lv = n ∧ le = n ∧ (((v ^^^ e) &&& m) &&& lowF n) = 0 then (1 : Int32) else 0 := by
  unfold eqmF
  rw [blen v lv h1, blen e le h2, blen m n h3]
  by_cases q : lv = n ∧ le = n
  · obtain ⟨rfl, rfl⟩ := q
    have := eqLn v e m _ h3
    by_cases r : eqL (bl v le) (bl e le) (bl m le) = true
    · rw [if_pos ⟨rfl, rfl, r⟩, if_pos ⟨rfl, rfl, this.mp r⟩]
    · rw [if_neg (fun u => r u.2.2), if_neg (fun u => r (this.mpr u.2.2))]
  · rw [if_neg, if_neg]
    · exact fun u => q ⟨u.1, u.2.1⟩
    · intro u
      have e1 := cl5 h1 h2 u.1
      have e2 := cl5 h1 h3 u.2.1
      exact q ⟨e2, e1.symm.trans e2⟩
set_option maxRecDepth 65536 in
set_option maxHeartbeats 40000000 in
theorem con_law (l : Launch) (Z : State) (a0 : Array Value) (hw : ∀ d ∈ tables_1, d.before a0 Z = true) (n0 : Nat) (h0 : Heap) (Z0 : n0 ≤ h0.size) (sel vv ev mk dv : Int32)  :
    Con l Z x code maxLocals ret tables_1 room_1 n0 #[(.int sel), (.int vv), (.int ev), (.int mk), (.int dv)] h0 (fun v h => v = some (.int 1)) := by
  refine Con.mk pf_0 hw Z0 ?_
  intro p e s m below meth c T0 C X0
  have ef : entryFrame m #[(.int sel), (.int vv), (.int ev), (.int mk), (.int dv)] maxLocals = mkF m 0 #[.val (.int sel), .val (.int vv), .val (.int ev), .val (.int mk), .val (.int dv), .unset, .unset, .unset, .unset, .unset, .unset, .unset, .unset, .unset, .unset] [] := by first | (simp [entryFrame, mkF, argsToLocals, Value.category, maxLocals]; done) | rfl
  rw [ef]
  have hnn : R5 ((sel &&& (7 : Int32)) % (5 : Int32)) := r5 _
  show Go p e below s n0 _ _ _ (T0.setTop (mkF m 0 #[.val (.int sel), .val (.int vv), .val (.int ev), .val (.int mk), .val (.int dv), .unset, .unset, .unset, .unset, .unset, .unset, .unset, .unset, .unset, .unset] []))
  refine Go.st (fun _ => XS.iloadN X0.here C.hx rfl (hb C.hby at_0) rfl) ?_
  show Go p e below s n0 _ _ _ (T0.setTop (mkF m 1 #[.val (.int sel), .val (.int vv), .val (.int ev), .val (.int mk), .val (.int dv), .unset, .unset, .unset, .unset, .unset, .unset, .unset, .unset, .unset, .unset] [(.int sel)]))
  refine Go.st (fun _ => XS.bipush X0.here C.hx rfl (hb C.hby at_1)) ?_
  show Go p e below s n0 _ _ _ (T0.setTop (mkF m 3 #[.val (.int sel), .val (.int vv), .val (.int ev), .val (.int mk), .val (.int dv), .unset, .unset, .unset, .unset, .unset, .unset, .unset, .unset, .unset, .unset] [(.int (7 : Int32)), (.int sel)]))
  refine Go.st (fun _ => XS.iand X0.here C.hx rfl (hb C.hby at_3) rfl) ?_
  show Go p e below s n0 _ _ _ (T0.setTop (mkF m 4 #[.val (.int sel), .val (.int vv), .val (.int ev), .val (.int mk), .val (.int dv), .unset, .unset, .unset, .unset, .unset, .unset, .unset, .unset, .unset, .unset] [(.int (sel &&& (7 : Int32)))]))
  refine Go.st (fun _ => XS.iconst X0.here C.hx rfl (hb C.hby at_4)) ?_
  show Go p e below s n0 _ _ _ (T0.setTop (mkF m 5 #[.val (.int sel), .val (.int vv), .val (.int ev), .val (.int mk), .val (.int dv), .unset, .unset, .unset, .unset, .unset, .unset, .unset, .unset, .unset, .unset] [(.int (5 : Int32)), (.int (sel &&& (7 : Int32)))]))
  refine Go.irem C X0 (by decide) at_5 ?_
  show Go p e below s n0 _ _ _ (T0.setTop (mkF m 6 #[.val (.int sel), .val (.int vv), .val (.int ev), .val (.int mk), .val (.int dv), .unset, .unset, .unset, .unset, .unset, .unset, .unset, .unset, .unset, .unset] [(.int ((sel &&& (7 : Int32)) % (5 : Int32)))]))
  generalize hg_nn : ((sel &&& (7 : Int32)) % (5 : Int32)) = nn
  refine Go.st (fun _ => XS.istore X0.here C.hx rfl (hb C.hby at_6) rfl (l' := #[.val (.int sel), .val (.int vv), .val (.int ev), .val (.int mk), .val (.int dv), .val (.int nn), .unset, .unset, .unset, .unset, .unset, .unset, .unset, .unset, .unset]) rfl) ?_
  rw [hg_nn] at hnn
  show Go p e below s n0 _ _ _ (T0.setTop (mkF m 8 #[.val (.int sel), .val (.int vv), .val (.int ev), .val (.int mk), .val (.int dv), .val (.int nn), .unset, .unset, .unset, .unset, .unset, .unset, .unset, .unset, .unset] []))
  refine Go.st (fun _ => XS.iloadN X0.here C.hx rfl (hb C.hby at_8) rfl) ?_
  show Go p e below s n0 _ _ _ (T0.setTop (mkF m 9 #[.val (.int sel), .val (.int vv), .val (.int ev), .val (.int mk), .val (.int dv), .val (.int nn), .unset, .unset, .unset, .unset, .unset, .unset, .unset, .unset, .unset] [(.int sel)]))
  refine Go.st (fun _ => XS.bipush X0.here C.hx rfl (hb C.hby at_9)) ?_
  show Go p e below s n0 _ _ _ (T0.setTop (mkF m 11 #[.val (.int sel), .val (.int vv), .val (.int ev), .val (.int mk), .val (.int dv), .val (.int nn), .unset, .unset, .unset, .unset, .unset, .unset, .unset, .unset, .unset] [(.int (10 : Int32)), (.int sel)]))
  refine Go.st (fun _ => XS.iushr X0.here C.hx rfl (hb C.hby at_11) rfl) ?_
  show Go p e below s n0 _ _ _ (T0.setTop (mkF m 12 #[.val (.int sel), .val (.int vv), .val (.int ev), .val (.int mk), .val (.int dv), .val (.int nn), .unset, .unset, .unset, .unset, .unset, .unset, .unset, .unset, .unset] [(.int (ius sel (10 : Int32)))]))
  refine Go.st (fun _ => XS.iconst X0.here C.hx rfl (hb C.hby at_12)) ?_
  show Go p e below s n0 _ _ _ (T0.setTop (mkF m 13 #[.val (.int sel), .val (.int vv), .val (.int ev), .val (.int mk), .val (.int dv), .val (.int nn), .unset, .unset, .unset, .unset, .unset, .unset, .unset, .unset, .unset] [(.int (1 : Int32)), (.int (ius sel (10 : Int32)))]))
  refine Go.st (fun _ => XS.iand X0.here C.hx rfl (hb C.hby at_13) rfl) ?_
  show Go p e below s n0 _ _ _ (T0.setTop (mkF m 14 #[.val (.int sel), .val (.int vv), .val (.int ev), .val (.int mk), .val (.int dv), .val (.int nn), .unset, .unset, .unset, .unset, .unset, .unset, .unset, .unset, .unset] [(.int ((ius sel (10 : Int32)) &&& (1 : Int32)))]))
  have J208 : ∀ (TJ208 : State) (lv : Int32), St p l e room_1 s m #[(.int sel), (.int vv), (.int ev), (.int mk), (.int dv)] below meth c n0 TJ208 h0 0 0 → R5 lv → Go p e below s n0 (room_1).cells (room_1).slots (fun v h => v = some (.int 1)) (TJ208.setTop (mkF m 30 #[.val (.int sel), .val (.int vv), .val (.int ev), .val (.int mk), .val (.int dv), .val (.int nn), .unset, .unset, .unset, .unset, .unset, .unset, .unset, .unset, .unset] [(.int lv)])) := by
    intro TJ208 lv XJ208 hj_lv
    show Go p e below s n0 _ _ _ (TJ208.setTop (mkF m 30 #[.val (.int sel), .val (.int vv), .val (.int ev), .val (.int mk), .val (.int dv), .val (.int nn), .unset, .unset, .unset, .unset, .unset, .unset, .unset, .unset, .unset] [(.int lv)]))
    refine Go.st (fun _ => XS.istore XJ208.here C.hx rfl (hb C.hby at_30) rfl (l' := #[.val (.int sel), .val (.int vv), .val (.int ev), .val (.int mk), .val (.int dv), .val (.int nn), .val (.int lv), .unset, .unset, .unset, .unset, .unset, .unset, .unset, .unset]) rfl) ?_
    show Go p e below s n0 _ _ _ (TJ208.setTop (mkF m 32 #[.val (.int sel), .val (.int vv), .val (.int ev), .val (.int mk), .val (.int dv), .val (.int nn), .val (.int lv), .unset, .unset, .unset, .unset, .unset, .unset, .unset, .unset] []))
    refine Go.st (fun _ => XS.iloadN XJ208.here C.hx rfl (hb C.hby at_32) rfl) ?_
    show Go p e below s n0 _ _ _ (TJ208.setTop (mkF m 33 #[.val (.int sel), .val (.int vv), .val (.int ev), .val (.int mk), .val (.int dv), .val (.int nn), .val (.int lv), .unset, .unset, .unset, .unset, .unset, .unset, .unset, .unset] [(.int sel)]))
    refine Go.st (fun _ => XS.bipush XJ208.here C.hx rfl (hb C.hby at_33)) ?_
    show Go p e below s n0 _ _ _ (TJ208.setTop (mkF m 35 #[.val (.int sel), .val (.int vv), .val (.int ev), .val (.int mk), .val (.int dv), .val (.int nn), .val (.int lv), .unset, .unset, .unset, .unset, .unset, .unset, .unset, .unset] [(.int (11 : Int32)), (.int sel)]))
    refine Go.st (fun _ => XS.iushr XJ208.here C.hx rfl (hb C.hby at_35) rfl) ?_
    show Go p e below s n0 _ _ _ (TJ208.setTop (mkF m 36 #[.val (.int sel), .val (.int vv), .val (.int ev), .val (.int mk), .val (.int dv), .val (.int nn), .val (.int lv), .unset, .unset, .unset, .unset, .unset, .unset, .unset, .unset] [(.int (ius sel (11 : Int32)))]))
    refine Go.st (fun _ => XS.iconst XJ208.here C.hx rfl (hb C.hby at_36)) ?_
    show Go p e below s n0 _ _ _ (TJ208.setTop (mkF m 37 #[.val (.int sel), .val (.int vv), .val (.int ev), .val (.int mk), .val (.int dv), .val (.int nn), .val (.int lv), .unset, .unset, .unset, .unset, .unset, .unset, .unset, .unset] [(.int (1 : Int32)), (.int (ius sel (11 : Int32)))]))
    refine Go.st (fun _ => XS.iand XJ208.here C.hx rfl (hb C.hby at_37) rfl) ?_
    show Go p e below s n0 _ _ _ (TJ208.setTop (mkF m 38 #[.val (.int sel), .val (.int vv), .val (.int ev), .val (.int mk), .val (.int dv), .val (.int nn), .val (.int lv), .unset, .unset, .unset, .unset, .unset, .unset, .unset, .unset] [(.int ((ius sel (11 : Int32)) &&& (1 : Int32)))]))
    have J210 : ∀ (TJ210 : State) (le : Int32), St p l e room_1 s m #[(.int sel), (.int vv), (.int ev), (.int mk), (.int dv)] below meth c n0 TJ210 h0 0 0 → R5 le → Go p e below s n0 (room_1).cells (room_1).slots (fun v h => v = some (.int 1)) (TJ210.setTop (mkF m 55 #[.val (.int sel), .val (.int vv), .val (.int ev), .val (.int mk), .val (.int dv), .val (.int nn), .val (.int lv), .unset, .unset, .unset, .unset, .unset, .unset, .unset, .unset] [(.int le)])) := by
      intro TJ210 le XJ210 hj_le
      show Go p e below s n0 _ _ _ (TJ210.setTop (mkF m 55 #[.val (.int sel), .val (.int vv), .val (.int ev), .val (.int mk), .val (.int dv), .val (.int nn), .val (.int lv), .unset, .unset, .unset, .unset, .unset, .unset, .unset, .unset] [(.int le)]))
      refine Go.st (fun _ => XS.istore XJ210.here C.hx rfl (hb C.hby at_55) rfl (l' := #[.val (.int sel), .val (.int vv), .val (.int ev), .val (.int mk), .val (.int dv), .val (.int nn), .val (.int lv), .val (.int le), .unset, .unset, .unset, .unset, .unset, .unset, .unset]) rfl) ?_
      show Go p e below s n0 _ _ _ (TJ210.setTop (mkF m 57 #[.val (.int sel), .val (.int vv), .val (.int ev), .val (.int mk), .val (.int dv), .val (.int nn), .val (.int lv), .val (.int le), .unset, .unset, .unset, .unset, .unset, .unset, .unset] []))
      refine Go.st (fun _ => XS.iloadN XJ210.here C.hx rfl (hb C.hby at_57) rfl) ?_
      show Go p e below s n0 _ _ _ (TJ210.setTop (mkF m 58 #[.val (.int sel), .val (.int vv), .val (.int ev), .val (.int mk), .val (.int dv), .val (.int nn), .val (.int lv), .val (.int le), .unset, .unset, .unset, .unset, .unset, .unset, .unset] [(.int sel)]))
      refine Go.st (fun _ => XS.bipush XJ210.here C.hx rfl (hb C.hby at_58)) ?_
      show Go p e below s n0 _ _ _ (TJ210.setTop (mkF m 60 #[.val (.int sel), .val (.int vv), .val (.int ev), .val (.int mk), .val (.int dv), .val (.int nn), .val (.int lv), .val (.int le), .unset, .unset, .unset, .unset, .unset, .unset, .unset] [(.int (12 : Int32)), (.int sel)]))
      refine Go.st (fun _ => XS.iushr XJ210.here C.hx rfl (hb C.hby at_60) rfl) ?_
      show Go p e below s n0 _ _ _ (TJ210.setTop (mkF m 61 #[.val (.int sel), .val (.int vv), .val (.int ev), .val (.int mk), .val (.int dv), .val (.int nn), .val (.int lv), .val (.int le), .unset, .unset, .unset, .unset, .unset, .unset, .unset] [(.int (ius sel (12 : Int32)))]))
      refine Go.st (fun _ => XS.iconst XJ210.here C.hx rfl (hb C.hby at_61)) ?_
      show Go p e below s n0 _ _ _ (TJ210.setTop (mkF m 62 #[.val (.int sel), .val (.int vv), .val (.int ev), .val (.int mk), .val (.int dv), .val (.int nn), .val (.int lv), .val (.int le), .unset, .unset, .unset, .unset, .unset, .unset, .unset] [(.int (1 : Int32)), (.int (ius sel (12 : Int32)))]))
      refine Go.st (fun _ => XS.iand XJ210.here C.hx rfl (hb C.hby at_62) rfl) ?_
      show Go p e below s n0 _ _ _ (TJ210.setTop (mkF m 63 #[.val (.int sel), .val (.int vv), .val (.int ev), .val (.int mk), .val (.int dv), .val (.int nn), .val (.int lv), .val (.int le), .unset, .unset, .unset, .unset, .unset, .unset, .unset] [(.int ((ius sel (12 : Int32)) &&& (1 : Int32)))]))
      have J212 : ∀ (TJ212 : State) (eb : Int32), St p l e room_1 s m #[(.int sel), (.int vv), (.int ev), (.int mk), (.int dv)] below meth c n0 TJ212 h0 0 0 → True → Go p e below s n0 (room_1).cells (room_1).slots (fun v h => v = some (.int 1)) (TJ212.setTop (mkF m 82 #[.val (.int sel), .val (.int vv), .val (.int ev), .val (.int mk), .val (.int dv), .val (.int nn), .val (.int lv), .val (.int le), .unset, .unset, .unset, .unset, .unset, .unset, .unset] [(.int eb)])) := by
        intro TJ212 eb XJ212 hj_eb
        show Go p e below s n0 _ _ _ (TJ212.setTop (mkF m 82 #[.val (.int sel), .val (.int vv), .val (.int ev), .val (.int mk), .val (.int dv), .val (.int nn), .val (.int lv), .val (.int le), .unset, .unset, .unset, .unset, .unset, .unset, .unset] [(.int eb)]))
        refine Go.st (fun _ => XS.istore XJ212.here C.hx rfl (hb C.hby at_82) rfl (l' := #[.val (.int sel), .val (.int vv), .val (.int ev), .val (.int mk), .val (.int dv), .val (.int nn), .val (.int lv), .val (.int le), .val (.int eb), .unset, .unset, .unset, .unset, .unset, .unset]) rfl) ?_
        show Go p e below s n0 _ _ _ (TJ212.setTop (mkF m 84 #[.val (.int sel), .val (.int vv), .val (.int ev), .val (.int mk), .val (.int dv), .val (.int nn), .val (.int lv), .val (.int le), .val (.int eb), .unset, .unset, .unset, .unset, .unset, .unset] []))
        refine Go.st (fun _ => XS.iloadN XJ212.here C.hx rfl (hb C.hby at_84) rfl) ?_
        show Go p e below s n0 _ _ _ (TJ212.setTop (mkF m 85 #[.val (.int sel), .val (.int vv), .val (.int ev), .val (.int mk), .val (.int dv), .val (.int nn), .val (.int lv), .val (.int le), .val (.int eb), .unset, .unset, .unset, .unset, .unset, .unset] [(.int vv)]))
        refine Go.st (fun _ => XS.iload XJ212.here C.hx rfl (hb C.hby at_85) rfl) ?_
        show Go p e below s n0 _ _ _ (TJ212.setTop (mkF m 87 #[.val (.int sel), .val (.int vv), .val (.int ev), .val (.int mk), .val (.int dv), .val (.int nn), .val (.int lv), .val (.int le), .val (.int eb), .unset, .unset, .unset, .unset, .unset, .unset] [(.int lv), (.int vv)]))
        refine Go.callS C XJ212 (W := 0) (argsL := [(.int vv), (.int lv)]) (rest := []) (wd 0 rfl) (wd 1 rfl) (wd 2 rfl) (wd 3 rfl) (by decide) (con_bytes l Z a0 hw n0 h0 XJ212.size vv lv hj_lv) (by decide) (by decide) rfl (lenOf pd_1 rfl) (Nat.le_of_ble_eq_true rfl) rfl at_87 (by decide) (by decide) (fun T213 h213 v213 X213 hQ213 => ?_)
        obtain ⟨b213, rfl, A213, K213⟩ := hQ213
        show Go p e below s n0 _ _ _ (T213.setTop (mkF m 90 #[.val (.int sel), .val (.int vv), .val (.int ev), .val (.int mk), .val (.int dv), .val (.int nn), .val (.int lv), .val (.int le), .val (.int eb), .unset, .unset, .unset, .unset, .unset, .unset] [(.ref b213)]))
        refine Go.st (fun _ => XS.astore X213.here C.hx rfl (hb C.hby at_90) rfl rfl (l' := #[.val (.int sel), .val (.int vv), .val (.int ev), .val (.int mk), .val (.int dv), .val (.int nn), .val (.int lv), .val (.int le), .val (.int eb), .val (.ref b213), .unset, .unset, .unset, .unset, .unset]) rfl) ?_
        show Go p e below s n0 _ _ _ (T213.setTop (mkF m 92 #[.val (.int sel), .val (.int vv), .val (.int ev), .val (.int mk), .val (.int dv), .val (.int nn), .val (.int lv), .val (.int le), .val (.int eb), .val (.ref b213), .unset, .unset, .unset, .unset, .unset] []))
        refine Go.st (fun _ => XS.iload X213.here C.hx rfl (hb C.hby at_92) rfl) ?_
        show Go p e below s n0 _ _ _ (T213.setTop (mkF m 94 #[.val (.int sel), .val (.int vv), .val (.int ev), .val (.int mk), .val (.int dv), .val (.int nn), .val (.int lv), .val (.int le), .val (.int eb), .val (.ref b213), .unset, .unset, .unset, .unset, .unset] [(.int eb)]))
        refine Go.st (fun _ => XS.iload X213.here C.hx rfl (hb C.hby at_94) rfl) ?_
        show Go p e below s n0 _ _ _ (T213.setTop (mkF m 96 #[.val (.int sel), .val (.int vv), .val (.int ev), .val (.int mk), .val (.int dv), .val (.int nn), .val (.int lv), .val (.int le), .val (.int eb), .val (.ref b213), .unset, .unset, .unset, .unset, .unset] [(.int le), (.int eb)]))
        refine Go.callS C X213 (W := 0) (argsL := [(.int eb), (.int le)]) (rest := []) (wd 0 rfl) (wd 1 rfl) (wd 2 rfl) (wd 3 rfl) (by decide) (con_bytes l Z a0 hw n0 h213 X213.size eb le hj_le) (by decide) (by decide) rfl (lenOf pd_1 rfl) (Nat.le_of_ble_eq_true rfl) rfl at_96 (by decide) (by decide) (fun T214 h214 v214 X214 hQ214 => ?_)
        obtain ⟨b214, rfl, A214, K214⟩ := hQ214
        show Go p e below s n0 _ _ _ (T214.setTop (mkF m 99 #[.val (.int sel), .val (.int vv), .val (.int ev), .val (.int mk), .val (.int dv), .val (.int nn), .val (.int lv), .val (.int le), .val (.int eb), .val (.ref b213), .unset, .unset, .unset, .unset, .unset] [(.ref b214)]))
        refine Go.st (fun _ => XS.astore X214.here C.hx rfl (hb C.hby at_99) rfl rfl (l' := #[.val (.int sel), .val (.int vv), .val (.int ev), .val (.int mk), .val (.int dv), .val (.int nn), .val (.int lv), .val (.int le), .val (.int eb), .val (.ref b213), .val (.ref b214), .unset, .unset, .unset, .unset]) rfl) ?_
        show Go p e below s n0 _ _ _ (T214.setTop (mkF m 101 #[.val (.int sel), .val (.int vv), .val (.int ev), .val (.int mk), .val (.int dv), .val (.int nn), .val (.int lv), .val (.int le), .val (.int eb), .val (.ref b213), .val (.ref b214), .unset, .unset, .unset, .unset] []))
        refine Go.st (fun _ => XS.iloadN X214.here C.hx rfl (hb C.hby at_101) rfl) ?_
        show Go p e below s n0 _ _ _ (T214.setTop (mkF m 102 #[.val (.int sel), .val (.int vv), .val (.int ev), .val (.int mk), .val (.int dv), .val (.int nn), .val (.int lv), .val (.int le), .val (.int eb), .val (.ref b213), .val (.ref b214), .unset, .unset, .unset, .unset] [(.int mk)]))
        refine Go.st (fun _ => XS.iload X214.here C.hx rfl (hb C.hby at_102) rfl) ?_
        show Go p e below s n0 _ _ _ (T214.setTop (mkF m 104 #[.val (.int sel), .val (.int vv), .val (.int ev), .val (.int mk), .val (.int dv), .val (.int nn), .val (.int lv), .val (.int le), .val (.int eb), .val (.ref b213), .val (.ref b214), .unset, .unset, .unset, .unset] [(.int nn), (.int mk)]))
        refine Go.callS C X214 (W := 0) (argsL := [(.int mk), (.int nn)]) (rest := []) (wd 0 rfl) (wd 1 rfl) (wd 2 rfl) (wd 3 rfl) (by decide) (con_bytes l Z a0 hw n0 h214 X214.size mk nn hnn) (by decide) (by decide) rfl (lenOf pd_1 rfl) (Nat.le_of_ble_eq_true rfl) rfl at_104 (by decide) (by decide) (fun T215 h215 v215 X215 hQ215 => ?_)
        obtain ⟨b215, rfl, A215, K215⟩ := hQ215
        show Go p e below s n0 _ _ _ (T215.setTop (mkF m 107 #[.val (.int sel), .val (.int vv), .val (.int ev), .val (.int mk), .val (.int dv), .val (.int nn), .val (.int lv), .val (.int le), .val (.int eb), .val (.ref b213), .val (.ref b214), .unset, .unset, .unset, .unset] [(.ref b215)]))
        refine Go.st (fun _ => XS.astore X215.here C.hx rfl (hb C.hby at_107) rfl rfl (l' := #[.val (.int sel), .val (.int vv), .val (.int ev), .val (.int mk), .val (.int dv), .val (.int nn), .val (.int lv), .val (.int le), .val (.int eb), .val (.ref b213), .val (.ref b214), .val (.ref b215), .unset, .unset, .unset]) rfl) ?_
        show Go p e below s n0 _ _ _ (T215.setTop (mkF m 109 #[.val (.int sel), .val (.int vv), .val (.int ev), .val (.int mk), .val (.int dv), .val (.int nn), .val (.int lv), .val (.int le), .val (.int eb), .val (.ref b213), .val (.ref b214), .val (.ref b215), .unset, .unset, .unset] []))
        refine Go.st (fun _ => XS.aload X215.here C.hx rfl (hb C.hby at_109) rfl rfl) ?_
        show Go p e below s n0 _ _ _ (T215.setTop (mkF m 111 #[.val (.int sel), .val (.int vv), .val (.int ev), .val (.int mk), .val (.int dv), .val (.int nn), .val (.int lv), .val (.int le), .val (.int eb), .val (.ref b213), .val (.ref b214), .val (.ref b215), .unset, .unset, .unset] [(.ref b213)]))
        refine Go.st (fun _ => XS.aload X215.here C.hx rfl (hb C.hby at_111) rfl rfl) ?_
        show Go p e below s n0 _ _ _ (T215.setTop (mkF m 113 #[.val (.int sel), .val (.int vv), .val (.int ev), .val (.int mk), .val (.int dv), .val (.int nn), .val (.int lv), .val (.int le), .val (.int eb), .val (.ref b213), .val (.ref b214), .val (.ref b215), .unset, .unset, .unset] [(.ref b214), (.ref b213)]))
        refine Go.st (fun _ => XS.aload X215.here C.hx rfl (hb C.hby at_113) rfl rfl) ?_
        show Go p e below s n0 _ _ _ (T215.setTop (mkF m 115 #[.val (.int sel), .val (.int vv), .val (.int ev), .val (.int mk), .val (.int dv), .val (.int nn), .val (.int lv), .val (.int le), .val (.int eb), .val (.ref b213), .val (.ref b214), .val (.ref b215), .unset, .unset, .unset] [(.ref b215), (.ref b214), (.ref b213)]))
        refine Go.callS C X215 (W := 0) (argsL := [(.ref b213), (.ref b214), (.ref b215)]) (rest := []) (wd 5 rfl) (wd 6 rfl) (wd 7 rfl) (wd 8 rfl) (by decide) (con_eqm l Z a0 hw n0 h215 X215.size b213 b214 b215 (bl vv lv) (bl eb le) (bl mk nn) ((A213.keep K214 nin0).keep K215 nin0) (A214.keep K215 nin0) A215 (bl4 _ _) (bl4 _ _) (bl4 _ _)) (by decide) (by decide) rfl (lenOf pd_2 rfl) (Nat.le_of_ble_eq_true rfl) rfl at_115 (by decide) (by decide) (fun T216 h216 v216 X216 hQ216 => ?_)
        obtain ⟨rfl, hh216⟩ := hQ216
        rw [hh216] at X216
        show Go p e below s n0 _ _ _ (T216.setTop (mkF m 118 #[.val (.int sel), .val (.int vv), .val (.int ev), .val (.int mk), .val (.int dv), .val (.int nn), .val (.int lv), .val (.int le), .val (.int eb), .val (.ref b213), .val (.ref b214), .val (.ref b215), .unset, .unset, .unset] [(.int (eqmF (bl vv lv) (bl eb le) (bl mk nn)))]))
        refine Go.st (fun _ => XS.istore X216.here C.hx rfl (hb C.hby at_118) rfl (l' := #[.val (.int sel), .val (.int vv), .val (.int ev), .val (.int mk), .val (.int dv), .val (.int nn), .val (.int lv), .val (.int le), .val (.int eb), .val (.ref b213), .val (.ref b214), .val (.ref b215), .val (.int (eqmF (bl vv lv) (bl eb le) (bl mk nn))), .unset, .unset]) rfl) ?_
        show Go p e below s n0 _ _ _ (T216.setTop (mkF m 120 #[.val (.int sel), .val (.int vv), .val (.int ev), .val (.int mk), .val (.int dv), .val (.int nn), .val (.int lv), .val (.int le), .val (.int eb), .val (.ref b213), .val (.ref b214), .val (.ref b215), .val (.int (eqmF (bl vv lv) (bl eb le) (bl mk nn))), .unset, .unset] []))
        have J217 : ∀ (TJ217 : State) (w1 : Int32) (l13 : Int32), St p l e room_1 s m #[(.int sel), (.int vv), (.int ev), (.int mk), (.int dv)] below meth c n0 TJ217 h215 3 12 → w1 = (if lv = nn ∧ le = nn ∧ (((vv ^^^ eb) &&& mk) &&& lowF nn) = 0 then (1 : Int32) else 0) → Go p e below s n0 (room_1).cells (room_1).slots (fun v h => v = some (.int 1)) (TJ217.setTop (mkF m 166 #[.val (.int sel), .val (.int vv), .val (.int ev), .val (.int mk), .val (.int dv), .val (.int nn), .val (.int lv), .val (.int le), .val (.int eb), .val (.ref b213), .val (.ref b214), .val (.ref b215), .val (.int (eqmF (bl vv lv) (bl eb le) (bl mk nn))), .val (.int l13), .unset] [(.int w1)])) := by
          intro TJ217 w1 l13 XJ217 hj_w1
          show Go p e below s n0 _ _ _ (TJ217.setTop (mkF m 166 #[.val (.int sel), .val (.int vv), .val (.int ev), .val (.int mk), .val (.int dv), .val (.int nn), .val (.int lv), .val (.int le), .val (.int eb), .val (.ref b213), .val (.ref b214), .val (.ref b215), .val (.int (eqmF (bl vv lv) (bl eb le) (bl mk nn))), .val (.int l13), .unset] [(.int w1)]))
          refine Go.st (fun _ => XS.istore XJ217.here C.hx rfl (hb C.hby at_166) rfl (l' := #[.val (.int sel), .val (.int vv), .val (.int ev), .val (.int mk), .val (.int dv), .val (.int nn), .val (.int lv), .val (.int le), .val (.int eb), .val (.ref b213), .val (.ref b214), .val (.ref b215), .val (.int (eqmF (bl vv lv) (bl eb le) (bl mk nn))), .val (.int l13), .val (.int w1)]) rfl) ?_
          show Go p e below s n0 _ _ _ (TJ217.setTop (mkF m 168 #[.val (.int sel), .val (.int vv), .val (.int ev), .val (.int mk), .val (.int dv), .val (.int nn), .val (.int lv), .val (.int le), .val (.int eb), .val (.ref b213), .val (.ref b214), .val (.ref b215), .val (.int (eqmF (bl vv lv) (bl eb le) (bl mk nn))), .val (.int l13), .val (.int w1)] []))
          refine Go.st (fun _ => XS.iload XJ217.here C.hx rfl (hb C.hby at_168) rfl) ?_
          show Go p e below s n0 _ _ _ (TJ217.setTop (mkF m 170 #[.val (.int sel), .val (.int vv), .val (.int ev), .val (.int mk), .val (.int dv), .val (.int nn), .val (.int lv), .val (.int le), .val (.int eb), .val (.ref b213), .val (.ref b214), .val (.ref b215), .val (.int (eqmF (bl vv lv) (bl eb le) (bl mk nn))), .val (.int l13), .val (.int w1)] [(.int (eqmF (bl vv lv) (bl eb le) (bl mk nn)))]))
          refine Go.st (fun _ => XS.iload XJ217.here C.hx rfl (hb C.hby at_170) rfl) ?_
          show Go p e below s n0 _ _ _ (TJ217.setTop (mkF m 172 #[.val (.int sel), .val (.int vv), .val (.int ev), .val (.int mk), .val (.int dv), .val (.int nn), .val (.int lv), .val (.int le), .val (.int eb), .val (.ref b213), .val (.ref b214), .val (.ref b215), .val (.int (eqmF (bl vv lv) (bl eb le) (bl mk nn))), .val (.int l13), .val (.int w1)] [(.int w1), (.int (eqmF (bl vv lv) (bl eb le) (bl mk nn)))]))
          refine Go.icmp_ne C XJ217 (pc' := 179) at_172 (by decide) (by decide) (fun hc => by first | exact absurd hc ((key vv eb mk lv le nn hj_lv hj_le hnn).trans hj_w1.symm) | exact absurd ((key vv eb mk lv le nn hj_lv hj_le hnn).trans hj_w1.symm) hc) (fun _ => ?_)
          show Go p e below s n0 _ _ _ (TJ217.setTop (mkF m 175 #[.val (.int sel), .val (.int vv), .val (.int ev), .val (.int mk), .val (.int dv), .val (.int nn), .val (.int lv), .val (.int le), .val (.int eb), .val (.ref b213), .val (.ref b214), .val (.ref b215), .val (.int (eqmF (bl vv lv) (bl eb le) (bl mk nn))), .val (.int l13), .val (.int w1)] []))
          refine Go.st (fun _ => XS.iconst XJ217.here C.hx rfl (hb C.hby at_175)) ?_
          show Go p e below s n0 _ _ _ (TJ217.setTop (mkF m 176 #[.val (.int sel), .val (.int vv), .val (.int ev), .val (.int mk), .val (.int dv), .val (.int nn), .val (.int lv), .val (.int le), .val (.int eb), .val (.ref b213), .val (.ref b214), .val (.ref b215), .val (.int (eqmF (bl vv lv) (bl eb le) (bl mk nn))), .val (.int l13), .val (.int w1)] [(.int (1 : Int32))]))
          refine Go.st (fun _ => XS.goto XJ217.here C.hx rfl (pc0 := 176) (pc' := 180) rfl (hb C.hby at_176) (by decide) (by decide)) ?_
          show Go p e below s n0 _ _ _ (TJ217.setTop (mkF m 180 #[.val (.int sel), .val (.int vv), .val (.int ev), .val (.int mk), .val (.int dv), .val (.int nn), .val (.int lv), .val (.int le), .val (.int eb), .val (.ref b213), .val (.ref b214), .val (.ref b215), .val (.int (eqmF (bl vv lv) (bl eb le) (bl mk nn))), .val (.int l13), .val (.int w1)] [(.int (1 : Int32))]))
          exact Go.retZ C XJ217 (by decide) at_180 rfl (by decide) (by decide)
        show Go p e below s n0 _ _ _ (T216.setTop (mkF m 120 #[.val (.int sel), .val (.int vv), .val (.int ev), .val (.int mk), .val (.int dv), .val (.int nn), .val (.int lv), .val (.int le), .val (.int eb), .val (.ref b213), .val (.ref b214), .val (.ref b215), .val (.int (eqmF (bl vv lv) (bl eb le) (bl mk nn))), .unset, .unset] []))
        refine Go.st (fun _ => XS.iload X216.here C.hx rfl (hb C.hby at_120) rfl) ?_
        show Go p e below s n0 _ _ _ (T216.setTop (mkF m 122 #[.val (.int sel), .val (.int vv), .val (.int ev), .val (.int mk), .val (.int dv), .val (.int nn), .val (.int lv), .val (.int le), .val (.int eb), .val (.ref b213), .val (.ref b214), .val (.ref b215), .val (.int (eqmF (bl vv lv) (bl eb le) (bl mk nn))), .unset, .unset] [(.int lv)]))
        refine Go.st (fun _ => XS.iload X216.here C.hx rfl (hb C.hby at_122) rfl) ?_
        show Go p e below s n0 _ _ _ (T216.setTop (mkF m 124 #[.val (.int sel), .val (.int vv), .val (.int ev), .val (.int mk), .val (.int dv), .val (.int nn), .val (.int lv), .val (.int le), .val (.int eb), .val (.ref b213), .val (.ref b214), .val (.ref b215), .val (.int (eqmF (bl vv lv) (bl eb le) (bl mk nn))), .unset, .unset] [(.int nn), (.int lv)]))
        refine Go.icmp_ne C X216 (pc' := 138) at_124 (by decide) (by decide) (fun hc124_219 => ?_) (fun hc124_219 => ?_)
        · show Go p e below s n0 _ _ _ (T216.setTop (mkF m 138 #[.val (.int sel), .val (.int vv), .val (.int ev), .val (.int mk), .val (.int dv), .val (.int nn), .val (.int lv), .val (.int le), .val (.int eb), .val (.ref b213), .val (.ref b214), .val (.ref b215), .val (.int (eqmF (bl vv lv) (bl eb le) (bl mk nn))), .unset, .unset] []))
          refine Go.st (fun _ => XS.iconst X216.here C.hx rfl (hb C.hby at_138)) ?_
          show Go p e below s n0 _ _ _ (T216.setTop (mkF m 139 #[.val (.int sel), .val (.int vv), .val (.int ev), .val (.int mk), .val (.int dv), .val (.int nn), .val (.int lv), .val (.int le), .val (.int eb), .val (.ref b213), .val (.ref b214), .val (.ref b215), .val (.int (eqmF (bl vv lv) (bl eb le) (bl mk nn))), .unset, .unset] [(.int (0 : Int32))]))
          refine Go.st (fun _ => XS.istore X216.here C.hx rfl (hb C.hby at_139) rfl (l' := #[.val (.int sel), .val (.int vv), .val (.int ev), .val (.int mk), .val (.int dv), .val (.int nn), .val (.int lv), .val (.int le), .val (.int eb), .val (.ref b213), .val (.ref b214), .val (.ref b215), .val (.int (eqmF (bl vv lv) (bl eb le) (bl mk nn))), .val (.int (0 : Int32)), .unset]) rfl) ?_
          show Go p e below s n0 _ _ _ (T216.setTop (mkF m 141 #[.val (.int sel), .val (.int vv), .val (.int ev), .val (.int mk), .val (.int dv), .val (.int nn), .val (.int lv), .val (.int le), .val (.int eb), .val (.ref b213), .val (.ref b214), .val (.ref b215), .val (.int (eqmF (bl vv lv) (bl eb le) (bl mk nn))), .val (.int (0 : Int32)), .unset] []))
          refine Go.st (fun _ => XS.iload X216.here C.hx rfl (hb C.hby at_141) rfl) ?_
          show Go p e below s n0 _ _ _ (T216.setTop (mkF m 143 #[.val (.int sel), .val (.int vv), .val (.int ev), .val (.int mk), .val (.int dv), .val (.int nn), .val (.int lv), .val (.int le), .val (.int eb), .val (.ref b213), .val (.ref b214), .val (.ref b215), .val (.int (eqmF (bl vv lv) (bl eb le) (bl mk nn))), .val (.int (0 : Int32)), .unset] [(.int (0 : Int32))]))
          refine Go.if_eq C X216 (pc' := 165) at_143 (by decide) (by decide) (fun _ => ?_) (fun hc => absurd hc (by decide))
          show Go p e below s n0 _ _ _ (T216.setTop (mkF m 165 #[.val (.int sel), .val (.int vv), .val (.int ev), .val (.int mk), .val (.int dv), .val (.int nn), .val (.int lv), .val (.int le), .val (.int eb), .val (.ref b213), .val (.ref b214), .val (.ref b215), .val (.int (eqmF (bl vv lv) (bl eb le) (bl mk nn))), .val (.int (0 : Int32)), .unset] []))
          refine Go.st (fun _ => XS.iconst X216.here C.hx rfl (hb C.hby at_165)) ?_
          show Go p e below s n0 _ _ _ (T216.setTop (mkF m 166 #[.val (.int sel), .val (.int vv), .val (.int ev), .val (.int mk), .val (.int dv), .val (.int nn), .val (.int lv), .val (.int le), .val (.int eb), .val (.ref b213), .val (.ref b214), .val (.ref b215), .val (.int (eqmF (bl vv lv) (bl eb le) (bl mk nn))), .val (.int (0 : Int32)), .unset] [(.int (0 : Int32))]))
          exact J217 T216 (0 : Int32) (0 : Int32) X216 (by simp [hc124_219])
        · show Go p e below s n0 _ _ _ (T216.setTop (mkF m 127 #[.val (.int sel), .val (.int vv), .val (.int ev), .val (.int mk), .val (.int dv), .val (.int nn), .val (.int lv), .val (.int le), .val (.int eb), .val (.ref b213), .val (.ref b214), .val (.ref b215), .val (.int (eqmF (bl vv lv) (bl eb le) (bl mk nn))), .unset, .unset] []))
          refine Go.st (fun _ => XS.iload X216.here C.hx rfl (hb C.hby at_127) rfl) ?_
          show Go p e below s n0 _ _ _ (T216.setTop (mkF m 129 #[.val (.int sel), .val (.int vv), .val (.int ev), .val (.int mk), .val (.int dv), .val (.int nn), .val (.int lv), .val (.int le), .val (.int eb), .val (.ref b213), .val (.ref b214), .val (.ref b215), .val (.int (eqmF (bl vv lv) (bl eb le) (bl mk nn))), .unset, .unset] [(.int le)]))
          refine Go.st (fun _ => XS.iload X216.here C.hx rfl (hb C.hby at_129) rfl) ?_
          show Go p e below s n0 _ _ _ (T216.setTop (mkF m 131 #[.val (.int sel), .val (.int vv), .val (.int ev), .val (.int mk), .val (.int dv), .val (.int nn), .val (.int lv), .val (.int le), .val (.int eb), .val (.ref b213), .val (.ref b214), .val (.ref b215), .val (.int (eqmF (bl vv lv) (bl eb le) (bl mk nn))), .unset, .unset] [(.int nn), (.int le)]))
          refine Go.icmp_ne C X216 (pc' := 138) at_131 (by decide) (by decide) (fun hc131_221 => ?_) (fun hc131_221 => ?_)
          · show Go p e below s n0 _ _ _ (T216.setTop (mkF m 138 #[.val (.int sel), .val (.int vv), .val (.int ev), .val (.int mk), .val (.int dv), .val (.int nn), .val (.int lv), .val (.int le), .val (.int eb), .val (.ref b213), .val (.ref b214), .val (.ref b215), .val (.int (eqmF (bl vv lv) (bl eb le) (bl mk nn))), .unset, .unset] []))
            refine Go.st (fun _ => XS.iconst X216.here C.hx rfl (hb C.hby at_138)) ?_
            show Go p e below s n0 _ _ _ (T216.setTop (mkF m 139 #[.val (.int sel), .val (.int vv), .val (.int ev), .val (.int mk), .val (.int dv), .val (.int nn), .val (.int lv), .val (.int le), .val (.int eb), .val (.ref b213), .val (.ref b214), .val (.ref b215), .val (.int (eqmF (bl vv lv) (bl eb le) (bl mk nn))), .unset, .unset] [(.int (0 : Int32))]))
            refine Go.st (fun _ => XS.istore X216.here C.hx rfl (hb C.hby at_139) rfl (l' := #[.val (.int sel), .val (.int vv), .val (.int ev), .val (.int mk), .val (.int dv), .val (.int nn), .val (.int lv), .val (.int le), .val (.int eb), .val (.ref b213), .val (.ref b214), .val (.ref b215), .val (.int (eqmF (bl vv lv) (bl eb le) (bl mk nn))), .val (.int (0 : Int32)), .unset]) rfl) ?_
            show Go p e below s n0 _ _ _ (T216.setTop (mkF m 141 #[.val (.int sel), .val (.int vv), .val (.int ev), .val (.int mk), .val (.int dv), .val (.int nn), .val (.int lv), .val (.int le), .val (.int eb), .val (.ref b213), .val (.ref b214), .val (.ref b215), .val (.int (eqmF (bl vv lv) (bl eb le) (bl mk nn))), .val (.int (0 : Int32)), .unset] []))
            refine Go.st (fun _ => XS.iload X216.here C.hx rfl (hb C.hby at_141) rfl) ?_
            show Go p e below s n0 _ _ _ (T216.setTop (mkF m 143 #[.val (.int sel), .val (.int vv), .val (.int ev), .val (.int mk), .val (.int dv), .val (.int nn), .val (.int lv), .val (.int le), .val (.int eb), .val (.ref b213), .val (.ref b214), .val (.ref b215), .val (.int (eqmF (bl vv lv) (bl eb le) (bl mk nn))), .val (.int (0 : Int32)), .unset] [(.int (0 : Int32))]))
            refine Go.if_eq C X216 (pc' := 165) at_143 (by decide) (by decide) (fun _ => ?_) (fun hc => absurd hc (by decide))
            show Go p e below s n0 _ _ _ (T216.setTop (mkF m 165 #[.val (.int sel), .val (.int vv), .val (.int ev), .val (.int mk), .val (.int dv), .val (.int nn), .val (.int lv), .val (.int le), .val (.int eb), .val (.ref b213), .val (.ref b214), .val (.ref b215), .val (.int (eqmF (bl vv lv) (bl eb le) (bl mk nn))), .val (.int (0 : Int32)), .unset] []))
            refine Go.st (fun _ => XS.iconst X216.here C.hx rfl (hb C.hby at_165)) ?_
            show Go p e below s n0 _ _ _ (T216.setTop (mkF m 166 #[.val (.int sel), .val (.int vv), .val (.int ev), .val (.int mk), .val (.int dv), .val (.int nn), .val (.int lv), .val (.int le), .val (.int eb), .val (.ref b213), .val (.ref b214), .val (.ref b215), .val (.int (eqmF (bl vv lv) (bl eb le) (bl mk nn))), .val (.int (0 : Int32)), .unset] [(.int (0 : Int32))]))
            exact J217 T216 (0 : Int32) (0 : Int32) X216 (by simp [hc124_219, hc131_221])
          · show Go p e below s n0 _ _ _ (T216.setTop (mkF m 134 #[.val (.int sel), .val (.int vv), .val (.int ev), .val (.int mk), .val (.int dv), .val (.int nn), .val (.int lv), .val (.int le), .val (.int eb), .val (.ref b213), .val (.ref b214), .val (.ref b215), .val (.int (eqmF (bl vv lv) (bl eb le) (bl mk nn))), .unset, .unset] []))
            refine Go.st (fun _ => XS.iconst X216.here C.hx rfl (hb C.hby at_134)) ?_
            show Go p e below s n0 _ _ _ (T216.setTop (mkF m 135 #[.val (.int sel), .val (.int vv), .val (.int ev), .val (.int mk), .val (.int dv), .val (.int nn), .val (.int lv), .val (.int le), .val (.int eb), .val (.ref b213), .val (.ref b214), .val (.ref b215), .val (.int (eqmF (bl vv lv) (bl eb le) (bl mk nn))), .unset, .unset] [(.int (1 : Int32))]))
            refine Go.st (fun _ => XS.goto X216.here C.hx rfl (pc0 := 135) (pc' := 139) rfl (hb C.hby at_135) (by decide) (by decide)) ?_
            show Go p e below s n0 _ _ _ (T216.setTop (mkF m 139 #[.val (.int sel), .val (.int vv), .val (.int ev), .val (.int mk), .val (.int dv), .val (.int nn), .val (.int lv), .val (.int le), .val (.int eb), .val (.ref b213), .val (.ref b214), .val (.ref b215), .val (.int (eqmF (bl vv lv) (bl eb le) (bl mk nn))), .unset, .unset] [(.int (1 : Int32))]))
            refine Go.st (fun _ => XS.istore X216.here C.hx rfl (hb C.hby at_139) rfl (l' := #[.val (.int sel), .val (.int vv), .val (.int ev), .val (.int mk), .val (.int dv), .val (.int nn), .val (.int lv), .val (.int le), .val (.int eb), .val (.ref b213), .val (.ref b214), .val (.ref b215), .val (.int (eqmF (bl vv lv) (bl eb le) (bl mk nn))), .val (.int (1 : Int32)), .unset]) rfl) ?_
            show Go p e below s n0 _ _ _ (T216.setTop (mkF m 141 #[.val (.int sel), .val (.int vv), .val (.int ev), .val (.int mk), .val (.int dv), .val (.int nn), .val (.int lv), .val (.int le), .val (.int eb), .val (.ref b213), .val (.ref b214), .val (.ref b215), .val (.int (eqmF (bl vv lv) (bl eb le) (bl mk nn))), .val (.int (1 : Int32)), .unset] []))
            refine Go.st (fun _ => XS.iload X216.here C.hx rfl (hb C.hby at_141) rfl) ?_
            show Go p e below s n0 _ _ _ (T216.setTop (mkF m 143 #[.val (.int sel), .val (.int vv), .val (.int ev), .val (.int mk), .val (.int dv), .val (.int nn), .val (.int lv), .val (.int le), .val (.int eb), .val (.ref b213), .val (.ref b214), .val (.ref b215), .val (.int (eqmF (bl vv lv) (bl eb le) (bl mk nn))), .val (.int (1 : Int32)), .unset] [(.int (1 : Int32))]))
            refine Go.if_eq C X216 (pc' := 165) at_143 (by decide) (by decide) (fun hc => absurd hc (by decide)) (fun _ => ?_)
            show Go p e below s n0 _ _ _ (T216.setTop (mkF m 146 #[.val (.int sel), .val (.int vv), .val (.int ev), .val (.int mk), .val (.int dv), .val (.int nn), .val (.int lv), .val (.int le), .val (.int eb), .val (.ref b213), .val (.ref b214), .val (.ref b215), .val (.int (eqmF (bl vv lv) (bl eb le) (bl mk nn))), .val (.int (1 : Int32)), .unset] []))
            refine Go.st (fun _ => XS.iloadN X216.here C.hx rfl (hb C.hby at_146) rfl) ?_
            show Go p e below s n0 _ _ _ (T216.setTop (mkF m 147 #[.val (.int sel), .val (.int vv), .val (.int ev), .val (.int mk), .val (.int dv), .val (.int nn), .val (.int lv), .val (.int le), .val (.int eb), .val (.ref b213), .val (.ref b214), .val (.ref b215), .val (.int (eqmF (bl vv lv) (bl eb le) (bl mk nn))), .val (.int (1 : Int32)), .unset] [(.int vv)]))
            refine Go.st (fun _ => XS.iload X216.here C.hx rfl (hb C.hby at_147) rfl) ?_
            show Go p e below s n0 _ _ _ (T216.setTop (mkF m 149 #[.val (.int sel), .val (.int vv), .val (.int ev), .val (.int mk), .val (.int dv), .val (.int nn), .val (.int lv), .val (.int le), .val (.int eb), .val (.ref b213), .val (.ref b214), .val (.ref b215), .val (.int (eqmF (bl vv lv) (bl eb le) (bl mk nn))), .val (.int (1 : Int32)), .unset] [(.int eb), (.int vv)]))
            refine Go.st (fun _ => XS.ixor X216.here C.hx rfl (hb C.hby at_149) rfl) ?_
            show Go p e below s n0 _ _ _ (T216.setTop (mkF m 150 #[.val (.int sel), .val (.int vv), .val (.int ev), .val (.int mk), .val (.int dv), .val (.int nn), .val (.int lv), .val (.int le), .val (.int eb), .val (.ref b213), .val (.ref b214), .val (.ref b215), .val (.int (eqmF (bl vv lv) (bl eb le) (bl mk nn))), .val (.int (1 : Int32)), .unset] [(.int (vv ^^^ eb))]))
            refine Go.st (fun _ => XS.iloadN X216.here C.hx rfl (hb C.hby at_150) rfl) ?_
            show Go p e below s n0 _ _ _ (T216.setTop (mkF m 151 #[.val (.int sel), .val (.int vv), .val (.int ev), .val (.int mk), .val (.int dv), .val (.int nn), .val (.int lv), .val (.int le), .val (.int eb), .val (.ref b213), .val (.ref b214), .val (.ref b215), .val (.int (eqmF (bl vv lv) (bl eb le) (bl mk nn))), .val (.int (1 : Int32)), .unset] [(.int mk), (.int (vv ^^^ eb))]))
            refine Go.st (fun _ => XS.iand X216.here C.hx rfl (hb C.hby at_151) rfl) ?_
            show Go p e below s n0 _ _ _ (T216.setTop (mkF m 152 #[.val (.int sel), .val (.int vv), .val (.int ev), .val (.int mk), .val (.int dv), .val (.int nn), .val (.int lv), .val (.int le), .val (.int eb), .val (.ref b213), .val (.ref b214), .val (.ref b215), .val (.int (eqmF (bl vv lv) (bl eb le) (bl mk nn))), .val (.int (1 : Int32)), .unset] [(.int ((vv ^^^ eb) &&& mk))]))
            refine Go.st (fun _ => XS.iload X216.here C.hx rfl (hb C.hby at_152) rfl) ?_
            show Go p e below s n0 _ _ _ (T216.setTop (mkF m 154 #[.val (.int sel), .val (.int vv), .val (.int ev), .val (.int mk), .val (.int dv), .val (.int nn), .val (.int lv), .val (.int le), .val (.int eb), .val (.ref b213), .val (.ref b214), .val (.ref b215), .val (.int (eqmF (bl vv lv) (bl eb le) (bl mk nn))), .val (.int (1 : Int32)), .unset] [(.int nn), (.int ((vv ^^^ eb) &&& mk))]))
            refine Go.callS C X216 (W := 1) (argsL := [(.int nn)]) (rest := [(.int ((vv ^^^ eb) &&& mk))]) (wd 9 rfl) (wd 10 rfl) (wd 2 rfl) (wd 11 rfl) (by decide) (con_low l Z a0 hw n0 h215 X216.size nn) (by decide) (by decide) rfl (lenOf pd_3 rfl) (Nat.le_of_ble_eq_true rfl) rfl at_154 (by decide) (by decide) (fun T224 h224 v224 X224 hQ224 => ?_)
            obtain ⟨rfl, hh224⟩ := hQ224
            rw [hh224] at X224
            show Go p e below s n0 _ _ _ (T224.setTop (mkF m 157 #[.val (.int sel), .val (.int vv), .val (.int ev), .val (.int mk), .val (.int dv), .val (.int nn), .val (.int lv), .val (.int le), .val (.int eb), .val (.ref b213), .val (.ref b214), .val (.ref b215), .val (.int (eqmF (bl vv lv) (bl eb le) (bl mk nn))), .val (.int (1 : Int32)), .unset] [(.int (lowF nn)), (.int ((vv ^^^ eb) &&& mk))]))
            refine Go.st (fun _ => XS.iand X224.here C.hx rfl (hb C.hby at_157) rfl) ?_
            show Go p e below s n0 _ _ _ (T224.setTop (mkF m 158 #[.val (.int sel), .val (.int vv), .val (.int ev), .val (.int mk), .val (.int dv), .val (.int nn), .val (.int lv), .val (.int le), .val (.int eb), .val (.ref b213), .val (.ref b214), .val (.ref b215), .val (.int (eqmF (bl vv lv) (bl eb le) (bl mk nn))), .val (.int (1 : Int32)), .unset] [(.int (((vv ^^^ eb) &&& mk) &&& (lowF nn)))]))
            refine Go.if_ne C X224 (pc' := 165) at_158 (by decide) (by decide) (fun hc158_225 => ?_) (fun hc158_225 => ?_)
            · show Go p e below s n0 _ _ _ (T224.setTop (mkF m 165 #[.val (.int sel), .val (.int vv), .val (.int ev), .val (.int mk), .val (.int dv), .val (.int nn), .val (.int lv), .val (.int le), .val (.int eb), .val (.ref b213), .val (.ref b214), .val (.ref b215), .val (.int (eqmF (bl vv lv) (bl eb le) (bl mk nn))), .val (.int (1 : Int32)), .unset] []))
              refine Go.st (fun _ => XS.iconst X224.here C.hx rfl (hb C.hby at_165)) ?_
              show Go p e below s n0 _ _ _ (T224.setTop (mkF m 166 #[.val (.int sel), .val (.int vv), .val (.int ev), .val (.int mk), .val (.int dv), .val (.int nn), .val (.int lv), .val (.int le), .val (.int eb), .val (.ref b213), .val (.ref b214), .val (.ref b215), .val (.int (eqmF (bl vv lv) (bl eb le) (bl mk nn))), .val (.int (1 : Int32)), .unset] [(.int (0 : Int32))]))
              exact J217 T224 (0 : Int32) (1 : Int32) X224 (by simp [hc124_219, hc131_221, hc158_225])
            · show Go p e below s n0 _ _ _ (T224.setTop (mkF m 161 #[.val (.int sel), .val (.int vv), .val (.int ev), .val (.int mk), .val (.int dv), .val (.int nn), .val (.int lv), .val (.int le), .val (.int eb), .val (.ref b213), .val (.ref b214), .val (.ref b215), .val (.int (eqmF (bl vv lv) (bl eb le) (bl mk nn))), .val (.int (1 : Int32)), .unset] []))
              refine Go.st (fun _ => XS.iconst X224.here C.hx rfl (hb C.hby at_161)) ?_
              show Go p e below s n0 _ _ _ (T224.setTop (mkF m 162 #[.val (.int sel), .val (.int vv), .val (.int ev), .val (.int mk), .val (.int dv), .val (.int nn), .val (.int lv), .val (.int le), .val (.int eb), .val (.ref b213), .val (.ref b214), .val (.ref b215), .val (.int (eqmF (bl vv lv) (bl eb le) (bl mk nn))), .val (.int (1 : Int32)), .unset] [(.int (1 : Int32))]))
              refine Go.st (fun _ => XS.goto X224.here C.hx rfl (pc0 := 162) (pc' := 166) rfl (hb C.hby at_162) (by decide) (by decide)) ?_
              show Go p e below s n0 _ _ _ (T224.setTop (mkF m 166 #[.val (.int sel), .val (.int vv), .val (.int ev), .val (.int mk), .val (.int dv), .val (.int nn), .val (.int lv), .val (.int le), .val (.int eb), .val (.ref b213), .val (.ref b214), .val (.ref b215), .val (.int (eqmF (bl vv lv) (bl eb le) (bl mk nn))), .val (.int (1 : Int32)), .unset] [(.int (1 : Int32))]))
              exact J217 T224 (1 : Int32) (1 : Int32) X224 (by simp [hc124_219, hc131_221, hc158_225])
      refine Go.if_eq C XJ210 (pc' := 81) at_63 (by decide) (by decide) (fun hc63_211 => ?_) (fun hc63_211 => ?_)
      · show Go p e below s n0 _ _ _ (TJ210.setTop (mkF m 81 #[.val (.int sel), .val (.int vv), .val (.int ev), .val (.int mk), .val (.int dv), .val (.int nn), .val (.int lv), .val (.int le), .unset, .unset, .unset, .unset, .unset, .unset, .unset] []))
        refine Go.st (fun _ => XS.iloadN XJ210.here C.hx rfl (hb C.hby at_81) rfl) ?_
        show Go p e below s n0 _ _ _ (TJ210.setTop (mkF m 82 #[.val (.int sel), .val (.int vv), .val (.int ev), .val (.int mk), .val (.int dv), .val (.int nn), .val (.int lv), .val (.int le), .unset, .unset, .unset, .unset, .unset, .unset, .unset] [(.int ev)]))
        exact J212 TJ210 ev XJ210 (trivial)
      · show Go p e below s n0 _ _ _ (TJ210.setTop (mkF m 66 #[.val (.int sel), .val (.int vv), .val (.int ev), .val (.int mk), .val (.int dv), .val (.int nn), .val (.int lv), .val (.int le), .unset, .unset, .unset, .unset, .unset, .unset, .unset] []))
        refine Go.st (fun _ => XS.iloadN XJ210.here C.hx rfl (hb C.hby at_66) rfl) ?_
        show Go p e below s n0 _ _ _ (TJ210.setTop (mkF m 67 #[.val (.int sel), .val (.int vv), .val (.int ev), .val (.int mk), .val (.int dv), .val (.int nn), .val (.int lv), .val (.int le), .unset, .unset, .unset, .unset, .unset, .unset, .unset] [(.int vv)]))
        refine Go.st (fun _ => XS.iload XJ210.here C.hx rfl (hb C.hby at_67) rfl) ?_
        show Go p e below s n0 _ _ _ (TJ210.setTop (mkF m 69 #[.val (.int sel), .val (.int vv), .val (.int ev), .val (.int mk), .val (.int dv), .val (.int nn), .val (.int lv), .val (.int le), .unset, .unset, .unset, .unset, .unset, .unset, .unset] [(.int dv), (.int vv)]))
        refine Go.st (fun _ => XS.iloadN XJ210.here C.hx rfl (hb C.hby at_69) rfl) ?_
        show Go p e below s n0 _ _ _ (TJ210.setTop (mkF m 70 #[.val (.int sel), .val (.int vv), .val (.int ev), .val (.int mk), .val (.int dv), .val (.int nn), .val (.int lv), .val (.int le), .unset, .unset, .unset, .unset, .unset, .unset, .unset] [(.int mk), (.int dv), (.int vv)]))
        refine Go.st (fun _ => XS.iconst XJ210.here C.hx rfl (hb C.hby at_70)) ?_
        show Go p e below s n0 _ _ _ (TJ210.setTop (mkF m 71 #[.val (.int sel), .val (.int vv), .val (.int ev), .val (.int mk), .val (.int dv), .val (.int nn), .val (.int lv), .val (.int le), .unset, .unset, .unset, .unset, .unset, .unset, .unset] [(.int (-1 : Int32)), (.int mk), (.int dv), (.int vv)]))
        refine Go.st (fun _ => XS.ixor XJ210.here C.hx rfl (hb C.hby at_71) rfl) ?_
        show Go p e below s n0 _ _ _ (TJ210.setTop (mkF m 72 #[.val (.int sel), .val (.int vv), .val (.int ev), .val (.int mk), .val (.int dv), .val (.int nn), .val (.int lv), .val (.int le), .unset, .unset, .unset, .unset, .unset, .unset, .unset] [(.int (mk ^^^ (-1 : Int32))), (.int dv), (.int vv)]))
        refine Go.st (fun _ => XS.iand XJ210.here C.hx rfl (hb C.hby at_72) rfl) ?_
        show Go p e below s n0 _ _ _ (TJ210.setTop (mkF m 73 #[.val (.int sel), .val (.int vv), .val (.int ev), .val (.int mk), .val (.int dv), .val (.int nn), .val (.int lv), .val (.int le), .unset, .unset, .unset, .unset, .unset, .unset, .unset] [(.int (dv &&& (mk ^^^ (-1 : Int32)))), (.int vv)]))
        refine Go.st (fun _ => XS.ixor XJ210.here C.hx rfl (hb C.hby at_73) rfl) ?_
        show Go p e below s n0 _ _ _ (TJ210.setTop (mkF m 74 #[.val (.int sel), .val (.int vv), .val (.int ev), .val (.int mk), .val (.int dv), .val (.int nn), .val (.int lv), .val (.int le), .unset, .unset, .unset, .unset, .unset, .unset, .unset] [(.int (vv ^^^ (dv &&& (mk ^^^ (-1 : Int32)))))]))
        refine Go.st (fun _ => XS.iloadN XJ210.here C.hx rfl (hb C.hby at_74) rfl) ?_
        show Go p e below s n0 _ _ _ (TJ210.setTop (mkF m 75 #[.val (.int sel), .val (.int vv), .val (.int ev), .val (.int mk), .val (.int dv), .val (.int nn), .val (.int lv), .val (.int le), .unset, .unset, .unset, .unset, .unset, .unset, .unset] [(.int ev), (.int (vv ^^^ (dv &&& (mk ^^^ (-1 : Int32)))))]))
        refine Go.st (fun _ => XS.iloadN XJ210.here C.hx rfl (hb C.hby at_75) rfl) ?_
        show Go p e below s n0 _ _ _ (TJ210.setTop (mkF m 76 #[.val (.int sel), .val (.int vv), .val (.int ev), .val (.int mk), .val (.int dv), .val (.int nn), .val (.int lv), .val (.int le), .unset, .unset, .unset, .unset, .unset, .unset, .unset] [(.int mk), (.int ev), (.int (vv ^^^ (dv &&& (mk ^^^ (-1 : Int32)))))]))
        refine Go.st (fun _ => XS.iand XJ210.here C.hx rfl (hb C.hby at_76) rfl) ?_
        show Go p e below s n0 _ _ _ (TJ210.setTop (mkF m 77 #[.val (.int sel), .val (.int vv), .val (.int ev), .val (.int mk), .val (.int dv), .val (.int nn), .val (.int lv), .val (.int le), .unset, .unset, .unset, .unset, .unset, .unset, .unset] [(.int (ev &&& mk)), (.int (vv ^^^ (dv &&& (mk ^^^ (-1 : Int32)))))]))
        refine Go.st (fun _ => XS.ixor XJ210.here C.hx rfl (hb C.hby at_77) rfl) ?_
        show Go p e below s n0 _ _ _ (TJ210.setTop (mkF m 78 #[.val (.int sel), .val (.int vv), .val (.int ev), .val (.int mk), .val (.int dv), .val (.int nn), .val (.int lv), .val (.int le), .unset, .unset, .unset, .unset, .unset, .unset, .unset] [(.int ((vv ^^^ (dv &&& (mk ^^^ (-1 : Int32)))) ^^^ (ev &&& mk)))]))
        refine Go.st (fun _ => XS.goto XJ210.here C.hx rfl (pc0 := 78) (pc' := 82) rfl (hb C.hby at_78) (by decide) (by decide)) ?_
        show Go p e below s n0 _ _ _ (TJ210.setTop (mkF m 82 #[.val (.int sel), .val (.int vv), .val (.int ev), .val (.int mk), .val (.int dv), .val (.int nn), .val (.int lv), .val (.int le), .unset, .unset, .unset, .unset, .unset, .unset, .unset] [(.int ((vv ^^^ (dv &&& (mk ^^^ (-1 : Int32)))) ^^^ (ev &&& mk)))]))
        exact J212 TJ210 ((vv ^^^ (dv &&& (mk ^^^ (-1 : Int32)))) ^^^ (ev &&& mk)) XJ210 (trivial)
    refine Go.if_eq C XJ208 (pc' := 53) at_38 (by decide) (by decide) (fun hc38_209 => ?_) (fun hc38_209 => ?_)
    · show Go p e below s n0 _ _ _ (TJ208.setTop (mkF m 53 #[.val (.int sel), .val (.int vv), .val (.int ev), .val (.int mk), .val (.int dv), .val (.int nn), .val (.int lv), .unset, .unset, .unset, .unset, .unset, .unset, .unset, .unset] []))
      refine Go.st (fun _ => XS.iload XJ208.here C.hx rfl (hb C.hby at_53) rfl) ?_
      show Go p e below s n0 _ _ _ (TJ208.setTop (mkF m 55 #[.val (.int sel), .val (.int vv), .val (.int ev), .val (.int mk), .val (.int dv), .val (.int nn), .val (.int lv), .unset, .unset, .unset, .unset, .unset, .unset, .unset, .unset] [(.int nn)]))
      exact J210 TJ208 nn XJ208 (hnn)
    · show Go p e below s n0 _ _ _ (TJ208.setTop (mkF m 41 #[.val (.int sel), .val (.int vv), .val (.int ev), .val (.int mk), .val (.int dv), .val (.int nn), .val (.int lv), .unset, .unset, .unset, .unset, .unset, .unset, .unset, .unset] []))
      refine Go.st (fun _ => XS.iloadN XJ208.here C.hx rfl (hb C.hby at_41) rfl) ?_
      show Go p e below s n0 _ _ _ (TJ208.setTop (mkF m 42 #[.val (.int sel), .val (.int vv), .val (.int ev), .val (.int mk), .val (.int dv), .val (.int nn), .val (.int lv), .unset, .unset, .unset, .unset, .unset, .unset, .unset, .unset] [(.int sel)]))
      refine Go.st (fun _ => XS.bipush XJ208.here C.hx rfl (hb C.hby at_42)) ?_
      show Go p e below s n0 _ _ _ (TJ208.setTop (mkF m 44 #[.val (.int sel), .val (.int vv), .val (.int ev), .val (.int mk), .val (.int dv), .val (.int nn), .val (.int lv), .unset, .unset, .unset, .unset, .unset, .unset, .unset, .unset] [(.int (7 : Int32)), (.int sel)]))
      refine Go.st (fun _ => XS.iushr XJ208.here C.hx rfl (hb C.hby at_44) rfl) ?_
      show Go p e below s n0 _ _ _ (TJ208.setTop (mkF m 45 #[.val (.int sel), .val (.int vv), .val (.int ev), .val (.int mk), .val (.int dv), .val (.int nn), .val (.int lv), .unset, .unset, .unset, .unset, .unset, .unset, .unset, .unset] [(.int (ius sel (7 : Int32)))]))
      refine Go.st (fun _ => XS.bipush XJ208.here C.hx rfl (hb C.hby at_45)) ?_
      show Go p e below s n0 _ _ _ (TJ208.setTop (mkF m 47 #[.val (.int sel), .val (.int vv), .val (.int ev), .val (.int mk), .val (.int dv), .val (.int nn), .val (.int lv), .unset, .unset, .unset, .unset, .unset, .unset, .unset, .unset] [(.int (7 : Int32)), (.int (ius sel (7 : Int32)))]))
      refine Go.st (fun _ => XS.iand XJ208.here C.hx rfl (hb C.hby at_47) rfl) ?_
      show Go p e below s n0 _ _ _ (TJ208.setTop (mkF m 48 #[.val (.int sel), .val (.int vv), .val (.int ev), .val (.int mk), .val (.int dv), .val (.int nn), .val (.int lv), .unset, .unset, .unset, .unset, .unset, .unset, .unset, .unset] [(.int ((ius sel (7 : Int32)) &&& (7 : Int32)))]))
      refine Go.st (fun _ => XS.iconst XJ208.here C.hx rfl (hb C.hby at_48)) ?_
      show Go p e below s n0 _ _ _ (TJ208.setTop (mkF m 49 #[.val (.int sel), .val (.int vv), .val (.int ev), .val (.int mk), .val (.int dv), .val (.int nn), .val (.int lv), .unset, .unset, .unset, .unset, .unset, .unset, .unset, .unset] [(.int (5 : Int32)), (.int ((ius sel (7 : Int32)) &&& (7 : Int32)))]))
      refine Go.irem C XJ208 (by decide) at_49 ?_
      show Go p e below s n0 _ _ _ (TJ208.setTop (mkF m 50 #[.val (.int sel), .val (.int vv), .val (.int ev), .val (.int mk), .val (.int dv), .val (.int nn), .val (.int lv), .unset, .unset, .unset, .unset, .unset, .unset, .unset, .unset] [(.int (((ius sel (7 : Int32)) &&& (7 : Int32)) % (5 : Int32)))]))
      refine Go.st (fun _ => XS.goto XJ208.here C.hx rfl (pc0 := 50) (pc' := 55) rfl (hb C.hby at_50) (by decide) (by decide)) ?_
      show Go p e below s n0 _ _ _ (TJ208.setTop (mkF m 55 #[.val (.int sel), .val (.int vv), .val (.int ev), .val (.int mk), .val (.int dv), .val (.int nn), .val (.int lv), .unset, .unset, .unset, .unset, .unset, .unset, .unset, .unset] [(.int (((ius sel (7 : Int32)) &&& (7 : Int32)) % (5 : Int32)))]))
      exact J210 TJ208 (((ius sel (7 : Int32)) &&& (7 : Int32)) % (5 : Int32)) XJ208 (r5 _)
  refine Go.if_eq C X0 (pc' := 28) at_14 (by decide) (by decide) (fun hc14_207 => ?_) (fun hc14_207 => ?_)
  · show Go p e below s n0 _ _ _ (T0.setTop (mkF m 28 #[.val (.int sel), .val (.int vv), .val (.int ev), .val (.int mk), .val (.int dv), .val (.int nn), .unset, .unset, .unset, .unset, .unset, .unset, .unset, .unset, .unset] []))
    refine Go.st (fun _ => XS.iload X0.here C.hx rfl (hb C.hby at_28) rfl) ?_
    show Go p e below s n0 _ _ _ (T0.setTop (mkF m 30 #[.val (.int sel), .val (.int vv), .val (.int ev), .val (.int mk), .val (.int dv), .val (.int nn), .unset, .unset, .unset, .unset, .unset, .unset, .unset, .unset, .unset] [(.int nn)]))
    exact J208 T0 nn X0 (hnn)
  · show Go p e below s n0 _ _ _ (T0.setTop (mkF m 17 #[.val (.int sel), .val (.int vv), .val (.int ev), .val (.int mk), .val (.int dv), .val (.int nn), .unset, .unset, .unset, .unset, .unset, .unset, .unset, .unset, .unset] []))
    refine Go.st (fun _ => XS.iloadN X0.here C.hx rfl (hb C.hby at_17) rfl) ?_
    show Go p e below s n0 _ _ _ (T0.setTop (mkF m 18 #[.val (.int sel), .val (.int vv), .val (.int ev), .val (.int mk), .val (.int dv), .val (.int nn), .unset, .unset, .unset, .unset, .unset, .unset, .unset, .unset, .unset] [(.int sel)]))
    refine Go.st (fun _ => XS.iconst X0.here C.hx rfl (hb C.hby at_18)) ?_
    show Go p e below s n0 _ _ _ (T0.setTop (mkF m 19 #[.val (.int sel), .val (.int vv), .val (.int ev), .val (.int mk), .val (.int dv), .val (.int nn), .unset, .unset, .unset, .unset, .unset, .unset, .unset, .unset, .unset] [(.int (4 : Int32)), (.int sel)]))
    refine Go.st (fun _ => XS.iushr X0.here C.hx rfl (hb C.hby at_19) rfl) ?_
    show Go p e below s n0 _ _ _ (T0.setTop (mkF m 20 #[.val (.int sel), .val (.int vv), .val (.int ev), .val (.int mk), .val (.int dv), .val (.int nn), .unset, .unset, .unset, .unset, .unset, .unset, .unset, .unset, .unset] [(.int (ius sel (4 : Int32)))]))
    refine Go.st (fun _ => XS.bipush X0.here C.hx rfl (hb C.hby at_20)) ?_
    show Go p e below s n0 _ _ _ (T0.setTop (mkF m 22 #[.val (.int sel), .val (.int vv), .val (.int ev), .val (.int mk), .val (.int dv), .val (.int nn), .unset, .unset, .unset, .unset, .unset, .unset, .unset, .unset, .unset] [(.int (7 : Int32)), (.int (ius sel (4 : Int32)))]))
    refine Go.st (fun _ => XS.iand X0.here C.hx rfl (hb C.hby at_22) rfl) ?_
    show Go p e below s n0 _ _ _ (T0.setTop (mkF m 23 #[.val (.int sel), .val (.int vv), .val (.int ev), .val (.int mk), .val (.int dv), .val (.int nn), .unset, .unset, .unset, .unset, .unset, .unset, .unset, .unset, .unset] [(.int ((ius sel (4 : Int32)) &&& (7 : Int32)))]))
    refine Go.st (fun _ => XS.iconst X0.here C.hx rfl (hb C.hby at_23)) ?_
    show Go p e below s n0 _ _ _ (T0.setTop (mkF m 24 #[.val (.int sel), .val (.int vv), .val (.int ev), .val (.int mk), .val (.int dv), .val (.int nn), .unset, .unset, .unset, .unset, .unset, .unset, .unset, .unset, .unset] [(.int (5 : Int32)), (.int ((ius sel (4 : Int32)) &&& (7 : Int32)))]))
    refine Go.irem C X0 (by decide) at_24 ?_
    show Go p e below s n0 _ _ _ (T0.setTop (mkF m 25 #[.val (.int sel), .val (.int vv), .val (.int ev), .val (.int mk), .val (.int dv), .val (.int nn), .unset, .unset, .unset, .unset, .unset, .unset, .unset, .unset, .unset] [(.int (((ius sel (4 : Int32)) &&& (7 : Int32)) % (5 : Int32)))]))
    refine Go.st (fun _ => XS.goto X0.here C.hx rfl (pc0 := 25) (pc' := 30) rfl (hb C.hby at_25) (by decide) (by decide)) ?_
    show Go p e below s n0 _ _ _ (T0.setTop (mkF m 30 #[.val (.int sel), .val (.int vv), .val (.int ev), .val (.int mk), .val (.int dv), .val (.int nn), .unset, .unset, .unset, .unset, .unset, .unset, .unset, .unset, .unset] [(.int (((ius sel (4 : Int32)) &&& (7 : Int32)) % (5 : Int32)))]))
    exact J208 T0 (((ius sel (4 : Int32)) &&& (7 : Int32)) % (5 : Int32)) X0 (r5 _)
set_option maxRecDepth 65536 in
set_option maxHeartbeats 40000000 in
theorem comes_1 {Post : Tables → Env → Array Value → State → Outcome → State → Prop} (hpost : ∀ tb e args s v u, (limb_1_1.after args s (.returned v) u = true ∧ limb_1_2.after args s (.returned v) u = true ∧ True) → FrameEnd s (.returned v) u (Jvm.fieldLocs frame_1_writes args s ++ Jvm.arrayLocs frame_1_arrays args s ++ Jvm.staticLocs frame_1_statics s) 16 128 → Post tb e args s (.returned v) u) :
    ArmFor flags0 classFile x code maxLocals ret World_1 tables_1 room_1 Calls_1 rest_1 Pre_1 Post := by
  intro l hfl _ _ p e ha hc hk s m args below hf hA hF happ hP
  obtain ⟨hcalls, hrest, hpre⟩ := hP
  obtain ⟨-, -, -, hnamed, -, -, -, hat⟩ := (Spec.applies_iff hf).mp happ
  obtain ⟨hg, hn⟩ := and_e (Cond.before_iff.mp (show (Jvm.Cond.and given_1 narrow_1).before args s = true from hpre))
  obtain ⟨h1, hr0⟩ := and_e hg
  obtain ⟨ha0, hr1⟩ := and_e hr0
  obtain ⟨ha1, hr2⟩ := and_e hr1
  obtain ⟨ha2, hr3⟩ := and_e hr2
  obtain ⟨ha3, hr4⟩ := and_e hr3
  have ha4 := hr4
  obtain ⟨w0, w1, w2, w3, w4, rfl⟩ : ∃ w0 w1 w2 w3 w4 : Value, args = #[w0, w1, w2, w3, w4] := by
    have hs : args.size = 5 := by simpa [Cond.value, given_1] using h1
    obtain ⟨L⟩ := args
    match L, hs with
    | [w0, w1, w2, w3, w4], _ => exact ⟨w0, w1, w2, w3, w4, rfl⟩
  have hw := fun d (hd : d ∈ tables_1) => atoms_spec (ws := Jvm.Cond.code x code maxLocals ret :: tables_1) hat d (List.mem_cons_of_mem _ hd)
  obtain ⟨i0, e0⟩ := is_v ha0
  obtain rfl : w0 = (.int i0) := Option.some.inj e0
  obtain ⟨i1, e1⟩ := is_v ha1
  obtain rfl : w1 = (.int i1) := Option.some.inj e1
  obtain ⟨i2, e2⟩ := is_v ha2
  obtain rfl : w2 = (.int i2) := Option.some.inj e2
  obtain ⟨i3, e3⟩ := is_v ha3
  obtain rfl : w3 = (.int i3) := Option.some.inj e3
  obtain ⟨i4, e4⟩ := is_v ha4
  obtain rfl : w4 = (.int i4) := Option.some.inj e4
  obtain ⟨n, o, h1, h2, h3, _, L, rfl, ⟨rfl, N⟩, hq⟩ := con_law l s _ hw s.heap.size s.heap (Nat.le_refl _) i0 i1 i2 i3 i4  p e ha hc hk s m _ below hf ((Spec.applies_iff_loose hf).mp happ).1 ⟨rfl, State.Warmed39.refl s, rfl⟩ trivial
  refine ⟨n, _, h1, h2, h3, hpost _ _ _ _ _ _ ⟨Cond.after_iff.mpr rfl, Cond.after_iff.mpr (eq_i res_at (Term.int_eval (1)) rfl), trivial⟩ ⟨hq.1, hq.2.1, (hq.2.2.sift fun y hy => Or.inr (N y hy)).mono (by decide) (by decide)⟩⟩
theorem main_1_1 : Claimed_1_1 := comes_1 fun _ _ _ _ _ _ h hF => ⟨h.1, hF⟩
theorem main_1_2 : Claimed_1_2 := comes_1 fun _ _ _ _ _ _ h hF => ⟨h.2.1, hF⟩
end Jvm.Pilot.@@N@@
namespace Jvm.Pilot.@@N@@
open Jvm Jvm.ClassFile Sem Op Lib Jvm.Free Jvm.Stand Jvm.Pilot.@@N@@.Jvm.D
/-! MADE BY PROGRAM (witnessworld.py) out of the Statement's table words and the real class files: 9 classes; the members and pool entries that the words name. The judged class is class 1, her method 3. -/
namespace start1
open Jvm.ClassFile
def u (s : String) : CpInfo := .utf8 (stringToUtf16 s)
/-- a pool by its gaps: so many unusable entries, then the entry; so many at the end -/
def gap : Nat → List CpInfo → List CpInfo
  | 0, r => r
  | n + 1, r => .unusable :: gap n r
def poolList (es : List (Nat × CpInfo)) (last : Nat) : List CpInfo := es.foldr (fun e r => gap e.1 (e.2 :: r)) (gap last [])
def pool (es : List (Nat × CpInfo)) (last : Nat) : Array CpInfo := ⟨poolList es last⟩
def fileOf (pool : Array CpInfo) (this : Nat) (attrs : Array Attribute := #[]) (ms : Array MethodInfo := #[]) (fl : Nat := 33) (sup : Nat := 0) (ifs : Array Nat := #[]) (fds : Array FieldInfo := #[]) : ClassFile where
  minorVersion := 0
  majorVersion := 65
  constantPool := pool
  accessFlags := fl
  thisClass := this
  superClass := sup
  interfaces := ifs
  fields := fds
  methods := ms
  attributes := attrs
def plain (name : String) (sup : Option ClassId) : Class where
  name := name
  kind := .ordinary
  loader := none
  accessFlags := 33
  super := sup
  interfaces := #[]
  cf := none
  fields := #[]
  methods := #[]
  instanceTypes := #[]
  staticTypes := #[]
  resolved := #[]
  callSites := []
  init := .initialized
  statics := none
  mirror := none

def pool0 : Array CpInfo := pool [(5, u "<init>"), (0, u "()V"), (1, .class_ 10), (1, u "java/lang/Object")] 113

def k0m0 : Method := { name := "<init>", desc := "()V", sig := { parameters := [], returnType := none }, accessFlags := 1, code := none }
/-- java/lang/Object -/
def k0 : Class := { plain "java/lang/Object" none with
  accessFlags := 33
  interfaces := #[]
  cf := some (fileOf pool0 8 #[] #[{ accessFlags := 1, nameIndex := 5, descriptorIndex := 6, attributes := #[] }] 33 0 #[] #[])
  fields := #[]
  methods := #[k0m0]
  instanceTypes := #[]
  staticTypes := #[]
  resolved := Array.replicate 124 none
  statics := none }

def pool1 : Array CpInfo := pool [(2, .class_ 4), (1, u "java/lang/Object"), (0, u "<init>"), (0, u "()V"), (0, .integer 65535), (0, .integer 16777215), (0, .methodref 10 11), (0, .class_ 12), (0, .nameAndType 13 14), (0, u "com/example/strict_attest/strictattest/intel/CollateralBodyEqualUnderMaskPinLaw"), (0, u "bytes"), (0, u "(II)[B"), (0, .methodref 16 17), (0, .class_ 18), (0, .nameAndType 19 20), (0, u "com/example/strict_attest/strictattest/intel/CollateralBody"), (0, u "equalUnderMask"), (0, u "([B[B[B)Z"), (0, .methodref 10 22), (0, .nameAndType 23 24), (0, u "low"), (0, u "(I)I"), (5, u "law"), (0, u "(IIIII)Z")] 2

def k1m0 : Method := { name := "<init>", desc := "()V", sig := { parameters := [], returnType := none }, accessFlags := 1, code := none }
def k1c1 : Code := { maxStack := 4, maxLocals := 3, code := method_2_code, exceptionTable := #[], attributes := #[] }
def k1m1 : Method := { name := "bytes", desc := "(II)[B", sig := { parameters := [.int, .int], returnType := some (.array .byte) }, accessFlags := 10, code := some k1c1 }
def k1c2 : Code := { maxStack := 2, maxLocals := 1, code := method_3_code, exceptionTable := #[], attributes := #[] }
def k1m2 : Method := { name := "low", desc := "(I)I", sig := { parameters := [.int], returnType := some .int }, accessFlags := 10, code := some k1c2 }
def k1c3 : Code := { maxStack := 4, maxLocals := 15, code := code, exceptionTable := #[], attributes := #[] }
def k1m3 : Method := { name := "law", desc := "(IIIII)Z", sig := { parameters := [.int, .int, .int, .int, .int], returnType := some .boolean }, accessFlags := 9, code := some k1c3 }
/-- com/example/strict_attest/strictattest/intel/CollateralBodyEqualUnderMaskPinLaw -/
def k1 : Class := { plain "com/example/strict_attest/strictattest/intel/CollateralBodyEqualUnderMaskPinLaw" (some 0) with
  accessFlags := 49
  interfaces := #[]
  cf := some (fileOf pool1 10 #[] #[{ accessFlags := 1, nameIndex := 5, descriptorIndex := 6, attributes := #[] }, { accessFlags := 10, nameIndex := 13, descriptorIndex := 14, attributes := #[] }, { accessFlags := 10, nameIndex := 23, descriptorIndex := 24, attributes := #[] }, { accessFlags := 9, nameIndex := 30, descriptorIndex := 31, attributes := #[] }] 49 2 #[] #[])
  fields := #[]
  methods := #[k1m0, k1m1, k1m2, k1m3]
  instanceTypes := #[]
  staticTypes := #[]
  resolved := Array.replicate 34 none
  statics := none }

def pool2 : Array CpInfo := pool [(2, .class_ 4), (1, u "java/lang/Object"), (3, .class_ 10), (1, u "com/example/strict_attest/strictattest/intel/CollateralBody"), (0, u "name"), (0, u "Ljava/lang/String;"), (2, u "body"), (0, u "Lcom/example/strict_attest/strictattest/json/JsonObject;"), (224, .class_ 242), (0, u "com/example/strict_attest/strictattest/intel/CollateralBody$IsvLevel"), (23, u "ID"), (1, u "VERSION"), (0, u "ISSUE_DATE"), (0, u "NEXT_UPDATE"), (0, u "TCB_DATE"), (0, u "TCB_STATUS"), (0, u "ADVISORY_IDS"), (0, u "TCB_LEVELS"), (0, u "TCB"), (0, u "ISVSVN"), (0, u "HIGHEST_VERSION"), (0, u "I"), (17, u "equalUnderMask"), (0, u "([B[B[B)Z")] 65

def k2c0 : Code := { maxStack := 4, maxLocals := 5, code := prog_112_method_14_code, exceptionTable := #[], attributes := #[] }
def k2m0 : Method := { name := "equalUnderMask", desc := "([B[B[B)Z", sig := { parameters := [(.array .byte), (.array .byte), (.array .byte)], returnType := some .boolean }, accessFlags := 9, code := some k2c0 }
/-- com/example/strict_attest/strictattest/intel/CollateralBody -/
def k2 : Class := { plain "com/example/strict_attest/strictattest/intel/CollateralBody" (some 0) with
  accessFlags := 49
  interfaces := #[]
  cf := some (fileOf pool2 8 #[.nestMembers #[241]] #[{ accessFlags := 9, nameIndex := 296, descriptorIndex := 297, attributes := #[] }] 49 2 #[] #[{ accessFlags := 26, nameIndex := 266, descriptorIndex := 12, attributes := #[] }, { accessFlags := 26, nameIndex := 268, descriptorIndex := 12, attributes := #[] }, { accessFlags := 26, nameIndex := 269, descriptorIndex := 12, attributes := #[] }, { accessFlags := 26, nameIndex := 270, descriptorIndex := 12, attributes := #[] }, { accessFlags := 26, nameIndex := 271, descriptorIndex := 12, attributes := #[] }, { accessFlags := 26, nameIndex := 272, descriptorIndex := 12, attributes := #[] }, { accessFlags := 26, nameIndex := 273, descriptorIndex := 12, attributes := #[] }, { accessFlags := 26, nameIndex := 274, descriptorIndex := 12, attributes := #[] }, { accessFlags := 26, nameIndex := 275, descriptorIndex := 12, attributes := #[] }, { accessFlags := 26, nameIndex := 276, descriptorIndex := 12, attributes := #[] }, { accessFlags := 26, nameIndex := 277, descriptorIndex := 278, attributes := #[] }, { accessFlags := 18, nameIndex := 11, descriptorIndex := 12, attributes := #[] }, { accessFlags := 18, nameIndex := 15, descriptorIndex := 16, attributes := #[] }])
  fields := #[{ name := "ID", type := (.object "java/lang/String"), accessFlags := 26, slot := 0, constantValue := 0 }, { name := "VERSION", type := (.object "java/lang/String"), accessFlags := 26, slot := 1, constantValue := 0 }, { name := "ISSUE_DATE", type := (.object "java/lang/String"), accessFlags := 26, slot := 2, constantValue := 0 }, { name := "NEXT_UPDATE", type := (.object "java/lang/String"), accessFlags := 26, slot := 3, constantValue := 0 }, { name := "TCB_DATE", type := (.object "java/lang/String"), accessFlags := 26, slot := 4, constantValue := 0 }, { name := "TCB_STATUS", type := (.object "java/lang/String"), accessFlags := 26, slot := 5, constantValue := 0 }, { name := "ADVISORY_IDS", type := (.object "java/lang/String"), accessFlags := 26, slot := 6, constantValue := 0 }, { name := "TCB_LEVELS", type := (.object "java/lang/String"), accessFlags := 26, slot := 7, constantValue := 0 }, { name := "TCB", type := (.object "java/lang/String"), accessFlags := 26, slot := 8, constantValue := 0 }, { name := "ISVSVN", type := (.object "java/lang/String"), accessFlags := 26, slot := 9, constantValue := 0 }, { name := "HIGHEST_VERSION", type := .int, accessFlags := 26, slot := 10, constantValue := 0 }, { name := "name", type := (.object "java/lang/String"), accessFlags := 18, slot := 0, constantValue := 0 }, { name := "body", type := (.object "com/example/strict_attest/strictattest/json/JsonObject"), accessFlags := 18, slot := 1, constantValue := 0 }]
  methods := #[k2m0]
  instanceTypes := #[(.object "java/lang/String"), (.object "com/example/strict_attest/strictattest/json/JsonObject")]
  staticTypes := #[(.object "java/lang/String"), (.object "java/lang/String"), (.object "java/lang/String"), (.object "java/lang/String"), (.object "java/lang/String"), (.object "java/lang/String"), (.object "java/lang/String"), (.object "java/lang/String"), (.object "java/lang/String"), (.object "java/lang/String"), .int]
  resolved := Array.replicate 363 none
  statics := none }

def pool3 : Array CpInfo := pool [(1, u "java/lang/Cloneable"), (0, .class_ 1), (0, u "java/lang/Object"), (0, .class_ 3)] 3

/-- java/lang/Cloneable -/
def k3 : Class := { plain "java/lang/Cloneable" (some 0) with
  accessFlags := 1537
  interfaces := #[]
  cf := some (fileOf pool3 2 #[] #[] 1537 4 #[] #[])
  fields := #[]
  methods := #[]
  instanceTypes := #[]
  staticTypes := #[]
  resolved := Array.replicate 8 none
  statics := none }

def pool4 : Array CpInfo := pool [(1, u "java/io/Serializable"), (0, .class_ 1), (0, u "java/lang/Object"), (0, .class_ 3)] 3

/-- java/io/Serializable -/
def k4 : Class := { plain "java/io/Serializable" (some 0) with
  accessFlags := 1537
  interfaces := #[]
  cf := some (fileOf pool4 2 #[] #[] 1537 4 #[] #[])
  fields := #[]
  methods := #[]
  instanceTypes := #[]
  staticTypes := #[]
  resolved := Array.replicate 8 none
  statics := none }

/-- the primitive byte -/
def k5 : Class := { plain "byte" none with kind := .primitive 'B', accessFlags := 0x411 }
/-- [B -/
def k6 : Class := { plain "[B" (some 0) with kind := .array 5 .byte, interfaces := #[3, 4], accessFlags := 1041 }

/-- the primitive int -/
def k7 : Class := { plain "int" none with kind := .primitive 'I', accessFlags := 0x411 }
/-- [I -/
def k8 : Class := { plain "[I" (some 0) with kind := .array 7 .int, interfaces := #[3, 4], accessFlags := 1041 }

def heap : Heap := #[]
def classes : Array Class := #[k0, k1, k2, k3, k4, k5, k6, k7, k8]
def interned : List (Array UInt16 × Addr) := []
def slotsUsed : Nat := 0
def theMethod : MethodId := ⟨1, 3⟩
def args0 : Array Value := #[.int 3, .int 2, .int 5, .int 2, .int 3]
def aboutOver (below : List Frame) : State where
  vm := { classes := classes, interned := interned.toArray }
  heap := heap
  slotsUsed := slotsUsed
  threads := #[{ frames := .invoking theMethod args0 :: below }]
def below0 : List Frame := [.native { method := ⟨0, 0⟩, args := #[] }]
def about1 : State := aboutOver below0
def p0 : Program := .bare "" "" ""
def e0 : Env := launch0.env 0 0 0
theorem w_frames : about1.frames = Frame.invoking theMethod args0 :: below0 := rfl
set_option maxRecDepth 65536 in
theorem w_args : argsFit about1.vm theMethod args0 = true := by decide +kernel
set_option maxRecDepth 65536 in
theorem w_heap : heapFits about1 = true := by decide +kernel
set_option maxRecDepth 65536 in
theorem w_runnable : about1.curStatus? = some .runnable := by decide +kernel
set_option maxRecDepth 65536 in
theorem w_alone : about1.alone = true := by decide +kernel
set_option maxRecDepth 65536 in
theorem w_named : about1.methodNamed? x = some theMethod := by decide +kernel
set_option maxRecDepth 65536 in
theorem w_hears : about1.hears theMethod below0 = true := by decide +kernel
set_option maxRecDepth 65536 in
theorem w_ripe : about1.ripe theMethod args0 below0 = true := by decide +kernel
theorem w_running : about1.status = .running := rfl
set_option maxRecDepth 65536 in
theorem w_room : about1.hasRoom e0.platform room_1 = true :=
  launch0.hasRoom_least _ room_1 (by decide +kernel) (by decide +kernel) (by decide +kernel) (by decide +kernel) (by decide +kernel) (by decide +kernel)
theorem allAtoms_all (ts : List Jvm.Cond) (a : Array Jvm.Value) (st : Jvm.State) : (allAtoms ts).before a st = ts.all (fun c => c.before a st) := by
  induction ts with
  | nil => rfl
  | cons c t ih =>
    show (Jvm.Cond.and c (allAtoms t)).before a st = _
    rw [Jvm.Cond.before_and, ih, List.all_cons]
def words1 : List Jvm.Cond := Jvm.Cond.code x code maxLocals ret :: tables_1
/-- a 'code' word, met by the world's own term for the bytes: nothing is compared byte by byte -/
theorem code_word {y : MethodName} {bytes : ByteArray} {mx : Nat} {rt : Option FieldType} {a : Array Value} {s : State} {m : MethodId} {meth : Method} {c : Code} (h1 : s.methodNamed? y = some m) (h2 : s.vm.method? m = some meth) (h3 : meth.code = some c) (h4 : c.code = bytes)
    (h5 : (c.maxLocals == mx && c.exceptionTable.isEmpty && decide (c.maxStack ≤ mostOperands) && decide (meth.sig.returnType = rt) && !meth.locks && decide (parseMethodDescriptor y.desc = some meth.sig)) = true) : (Jvm.Cond.code y bytes mx rt).before a s = true := by
  simp only [Bool.and_eq_true, beq_iff_eq, Bool.not_eq_true', decide_eq_true_eq] at h5
  obtain ⟨⟨⟨⟨⟨g1, g2⟩, g3⟩, g4⟩, g5⟩, g6⟩ := h5
  simp [Cond.before, Cond.holds, Cond.value, h1, h2, h3, h4, g1, g2, g3, g4, g5, g6]
def isCode : Jvm.Cond → Bool
  | .code _ _ _ _ => true
  | _ => false
theorem all_split {L : List Jvm.Cond} {P : Jvm.Cond → Bool} (h1 : L.all (fun c => isCode c || P c) = true) (h2 : ∀ c ∈ L.filter isCode, P c = true) : L.all P = true := by
  refine List.all_eq_true.mpr fun c hc => ?_
  have h := List.all_eq_true.mp h1 c hc
  rcases Bool.eq_false_or_eq_true (isCode c) with hi | hi
  · exact h2 c (List.mem_filter.mpr ⟨hc, hi⟩)
  · simpa [hi] using h
set_option maxRecDepth 65536 in
theorem w_c0 : (Jvm.Cond.code x code maxLocals ret).before args0 about1 = true := code_word (m := ⟨1, 3⟩) (meth := k1m3) (c := k1c3) (by decide +kernel) rfl rfl rfl (by decide +kernel)
set_option maxRecDepth 65536 in
theorem w_c1 : (Jvm.Cond.code ({ cls := "com/example/strict_attest/strictattest/intel/CollateralBodyEqualUnderMaskPinLaw", name := "bytes", desc := "(II)[B" } : Jvm.MethodName) method_2_code (3 : Nat) (Option.some (Jvm.ClassFile.FieldType.array Jvm.ClassFile.FieldType.byte))).before args0 about1 = true := code_word (m := ⟨1, 1⟩) (meth := k1m1) (c := k1c1) (by decide +kernel) rfl rfl rfl (by decide +kernel)
set_option maxRecDepth 65536 in
theorem w_c2 : (Jvm.Cond.code ({ cls := "com/example/strict_attest/strictattest/intel/CollateralBody", name := "equalUnderMask", desc := "([B[B[B)Z" } : Jvm.MethodName) prog_112_method_14_code (5 : Nat) (Option.some Jvm.ClassFile.FieldType.boolean)).before args0 about1 = true := code_word (m := ⟨2, 0⟩) (meth := k2m0) (c := k2c0) (by decide +kernel) rfl rfl rfl (by decide +kernel)
set_option maxRecDepth 65536 in
theorem w_c3 : (Jvm.Cond.code ({ cls := "com/example/strict_attest/strictattest/intel/CollateralBodyEqualUnderMaskPinLaw", name := "low", desc := "(I)I" } : Jvm.MethodName) method_3_code (1 : Nat) (Option.some Jvm.ClassFile.FieldType.int)).before args0 about1 = true := code_word (m := ⟨1, 2⟩) (meth := k1m2) (c := k1c2) (by decide +kernel) rfl rfl rfl (by decide +kernel)
def codes1 : List Jvm.Cond := [Jvm.Cond.code x code maxLocals ret, Jvm.Cond.code ({ cls := "com/example/strict_attest/strictattest/intel/CollateralBodyEqualUnderMaskPinLaw", name := "bytes", desc := "(II)[B" } : Jvm.MethodName) method_2_code (3 : Nat) (Option.some (Jvm.ClassFile.FieldType.array Jvm.ClassFile.FieldType.byte)), Jvm.Cond.code ({ cls := "com/example/strict_attest/strictattest/intel/CollateralBody", name := "equalUnderMask", desc := "([B[B[B)Z" } : Jvm.MethodName) prog_112_method_14_code (5 : Nat) (Option.some Jvm.ClassFile.FieldType.boolean), Jvm.Cond.code ({ cls := "com/example/strict_attest/strictattest/intel/CollateralBodyEqualUnderMaskPinLaw", name := "low", desc := "(I)I" } : Jvm.MethodName) method_3_code (1 : Nat) (Option.some Jvm.ClassFile.FieldType.int)]
set_option maxRecDepth 65536 in
theorem codes_eq : words1.filter isCode = codes1 := rfl
theorem w_codes : ∀ c ∈ words1.filter isCode, c.before args0 about1 = true := by
  rw [codes_eq]
  intro c hc
  simp only [codes1, List.mem_cons, List.not_mem_nil, or_false] at hc
  rcases hc with rfl | rfl | rfl | rfl
  · exact w_c0
  · exact w_c1
  · exact w_c2
  · exact w_c3
set_option maxRecDepth 65536 in
theorem w_t1 : words1.all (fun c => isCode c || c.before args0 about1) = true := by decide +kernel
theorem w_tables : (allAtoms (Jvm.Cond.code x code maxLocals ret :: tables_1)).before args0 about1 = true := by
  rw [allAtoms_all]
  show words1.all (fun c => c.before args0 about1) = true
  refine all_split ?_ w_codes
  rw [w_t1]
set_option maxRecDepth 65536 in
theorem w_case : (Jvm.Cond.and given_1 narrow_1).before args0 about1 = true := by decide +kernel
theorem w_applies : (headSpec (Jvm.Cond.code x code maxLocals ret :: tables_1) room_1).applies x e0.platform about1 = true :=
  (Spec.applies_iff w_frames).mpr ⟨w_running, w_runnable, w_alone, w_named, w_hears, w_ripe, w_room, w_tables⟩
theorem atStart : AtStart classFile x code maxLocals ret World_1 tables_1 room_1 Calls_1 rest_1 Pre_1 launch0 p0 e0 about1 theMethod args0 below0 :=
  ⟨lists_1, trivial, launch0.admits_env _ _ _, launch0.least_env, fairChoices_fair.cas, fairChoices_fair.clock, w_frames, w_args, w_heap, w_applies, trivial, trivial, w_case⟩
end start1
theorem witness_1 : WitnessClaimed_1 := ⟨start1.p0, start1.e0, start1.about1, start1.theMethod, start1.args0, start1.below0, start1.atStart⟩
end Jvm.Pilot.@@N@@
