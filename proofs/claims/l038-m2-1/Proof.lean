import JvmDerived
import JvmDerived.Pilot.@@N@@Statement
import JvmDerived.Pilot.@@N@@Code
set_option linter.unusedVariables false
set_option linter.unusedSimpArgs false
namespace Jvm.Pilot.@@N@@
open Jvm Jvm.ClassFile Sem Op Lib Jvm.Free Jvm.Stand Jvm.LawKit Jvm.RoadKit Bundle Jvm.Pilot.@@N@@.Jvm.D
section OwnKit
variable {p : Program} {l : Launch} {e : Env} {R : Room} {s : State} {m : MethodId} {args : Array Value} {below : List Frame} {meth : Method} {c : Code} {T : State} {locs : List Loc} {cells slots : Nat}
variable {Q : Option Value → Heap → List Loc → Prop} {K N : Nat}
/-- from the state U the body comes to its end, and leaves what Q says -/
def own_G (p : Program) (e : Env) (below : List Frame) (s : State) (Q : Option Value → Heap → List Loc → Prop) (K N : Nat) (U : State) : Prop :=
  ∃ s₂ o, Steps p.tables e below U s₂ ∧ s₂.status = .running ∧ Ended s₂ below o ∧ ∃ v L, o = .returned v ∧ Q v s₂.heap L ∧ FrameEnd s o s₂ L K N
theorem own_go {U U' : State} (h : ∀ t, Steps p.tables e below U' t → Steps p.tables e below U t) (k : own_G p e below s Q K N U') : own_G p e below s Q K N U := by
  obtain ⟨s₂, o, h1, r⟩ := k
  exact ⟨s₂, o, h _ h1, r⟩
theorem own_end (X : Stand p l e R s m args below meth c T locs cells slots) {v : Option Value} (hv : meth.sig.returnType = none → v = none) (hlocks : meth.locks = false) {U : State}
    (st : ∀ fs, (∀ (f : JFrame) (acts : List Action), f.method = m → f.locked = none → f.entered = [] → (doReturn e (T.setTop f) acts v).1 = T.setFrames fs) → Steps p.tables e below U (T.setFrames fs))
    (hQ : Q v T.heap locs) (hK : cells ≤ K) (hN : slots ≤ N) : own_G p e below s Q K N U := by
  obtain ⟨fs, hr, hrun, hended, hW, hsame⟩ := X.leave hv hlocks
  exact ⟨_, _, st fs hr, hrun, hended, _, _, rfl, hQ, ⟨_, rfl⟩, hW, hsame.mono hK hN⟩
theorem own_retI (X : Stand p l e R s m args below meth c T locs cells slots) (hx : p.tables.exec = Jvm.exec) {pc : Nat} {Ls : Array Slot} {z : Int32} {rest : List Value} (hret : meth.sig.returnType = some .int) (hlocks : meth.locks = false) (hd : decode c.code pc = .ok (.ireturn, 1))
    {h : Heap} (eT : T.heap = h) (hQ : Q (some (.int z)) h locs) (hK : cells ≤ K) (hN : slots ≤ N) : own_G p e below s Q K N (T.setTop (mkF m pc Ls (.int z :: rest))) :=
  own_end X (fun h => by rw [hret] at h; cases h) hlocks (fun fs hr => retOut X hx hret rfl (Or.inl ⟨rfl, Or.inl rfl, _, rfl⟩) hd hr) (by rw [eT]; exact hQ) hK hN
theorem own_retJ (X : Stand p l e R s m args below meth c T locs cells slots) (hx : p.tables.exec = Jvm.exec) {pc : Nat} {Ls : Array Slot} {z : Int64} {rest : List Value} (hret : meth.sig.returnType = some .long) (hlocks : meth.locks = false) (hd : decode c.code pc = .ok (.lreturn, 1))
    {h : Heap} (eT : T.heap = h) (hQ : Q (some (.long z)) h locs) (hK : cells ≤ K) (hN : slots ≤ N) : own_G p e below s Q K N (T.setTop (mkF m pc Ls (.long z :: rest))) :=
  own_end X (fun h => by rw [hret] at h; cases h) hlocks (fun fs hr => retOut X hx hret rfl (Or.inr (Or.inl ⟨rfl, rfl, _, rfl⟩)) hd hr) (by rw [eT]; exact hQ) hK hN
theorem own_retD (X : Stand p l e R s m args below meth c T locs cells slots) (hx : p.tables.exec = Jvm.exec) {pc : Nat} {Ls : Array Slot} {z : UInt64} {rest : List Value} (hret : meth.sig.returnType = some .double) (hlocks : meth.locks = false) (hd : decode c.code pc = .ok (.dreturn, 1))
    {h : Heap} (eT : T.heap = h) (hQ : Q (some (.double z)) h locs) (hK : cells ≤ K) (hN : slots ≤ N) : own_G p e below s Q K N (T.setTop (mkF m pc Ls (.double z :: rest))) :=
  own_end X (fun h => by rw [hret] at h; cases h) hlocks (fun fs hr => retOut X hx hret rfl (Or.inr (Or.inr (Or.inl ⟨rfl, rfl, _, rfl⟩))) hd hr) (by rw [eT]; exact hQ) hK hN
theorem own_retA {t : FieldType} (ht : t.isReference = true) {w : Value} (hv : w.isRef = true) (X : Stand p l e R s m args below meth c T locs cells slots) (hx : p.tables.exec = Jvm.exec) {pc : Nat} {Ls : Array Slot} {rest : List Value} (hret : meth.sig.returnType = some t) (hlocks : meth.locks = false) (hd : decode c.code pc = .ok (.areturn, 1))
    {h : Heap} (eT : T.heap = h) (hQ : Q (some w) h locs) (hK : cells ≤ K) (hN : slots ≤ N) : own_G p e below s Q K N (T.setTop (mkF m pc Ls (w :: rest))) :=
  own_end X (fun h => by rw [hret] at h; cases h) hlocks (fun fs hr => retOut X hx hret (by cases t <;> first | rfl | (cases ht)) (Or.inr (Or.inr (Or.inr (Or.inr ⟨rfl, ht, hv⟩)))) hd hr) (by rw [eT]; exact hQ) hK hN
theorem own_retN {t : FieldType} (ht : t = .boolean ∨ t = .byte ∨ t = .char ∨ t = .short) (X : Stand p l e R s m args below meth c T locs cells slots) (hx : p.tables.exec = Jvm.exec) {pc : Nat} {Ls : Array Slot} {z : Int32} {rest : List Value} (hret : meth.sig.returnType = some t) (hlocks : meth.locks = false) (hd : decode c.code pc = .ok (.ireturn, 1))
    {h : Heap} (eT : T.heap = h) (hQ : Q (some (.int (nar t z))) h locs) (hK : cells ≤ K) (hN : slots ≤ N) : own_G p e below s Q K N (T.setTop (mkF m pc Ls (.int z :: rest))) :=
  own_end X (fun h => by rw [hret] at h; cases h) hlocks (fun fs hr => retN X hx hret ht hd hr) (by rw [eT]; exact hQ) hK hN
theorem own_ret0 (X : Stand p l e R s m args below meth c T locs cells slots) (hx : p.tables.exec = Jvm.exec) {pc : Nat} {Ls : Array Slot} (hret : meth.sig.returnType = none) (hlocks : meth.locks = false) (hd : decode c.code pc = .ok (.return_, 1))
    {h : Heap} (eT : T.heap = h) (hQ : Q none h locs) (hK : cells ≤ K) (hN : slots ≤ N) : own_G p e below s Q K N (T.setTop (mkF m pc Ls [])) :=
  own_end X (fun _ => rfl) hlocks (fun fs hr => X.returnOut hx hret hd hr) (by rw [eT]; exact hQ) hK hN
theorem own_lrem (X : Stand p l e R s m args below meth c T locs cells slots) (hx : p.tables.exec = Jvm.exec) {g : JFrame} {target : State} (hg : g.method = m) {x y : Int64} {rest : List Value} (hd : decode c.code g.pc = .ok (.lrem, 1)) (hs : g.stack = .long y :: .long x :: rest) (hy : y ≠ 0)
    (hr : Steps p.tables e below (T.setTop { g with pc := g.pc + 1, stack := .long (x % y) :: rest }) target) : Steps p.tables e below (T.setTop g) target :=
  XS.lrem X.here hx hg hd hs hy (by rw [lrem_mod]; exact hr)
theorem own_ic_ltY (X : Stand p l e R s m args below meth c T locs cells slots) (hx : p.tables.exec = Jvm.exec) {pc pc' : Nat} {Ls : Array Slot} {rest : List Value} {o : Int} {x y : Int32} (hd : decode c.code pc = .ok (.if_icmp .lt o, 3)) (ho : 0 ≤ (pc : Int) + o) (hp : ((pc : Int) + o).toNat = pc') (h : x < y) (k : own_G p e below s Q K N (T.setTop (mkF m pc' Ls rest))) : own_G p e below s Q K N (T.setTop (mkF m pc Ls (.int y :: .int x :: rest))) :=
  own_go (fun _ k => XS.icmpYes X.here hx rfl (pc0 := pc) (pc' := pc') rfl hd rfl (tlt h).1 ho hp k) k
theorem own_ic_ltN (X : Stand p l e R s m args below meth c T locs cells slots) (hx : p.tables.exec = Jvm.exec) {pc : Nat} {Ls : Array Slot} {rest : List Value} {o : Int} {x y : Int32} (hd : decode c.code pc = .ok (.if_icmp .lt o, 3)) (h : ¬ (x < y)) (k : own_G p e below s Q K N (T.setTop (mkF m (pc + 3) Ls rest))) : own_G p e below s Q K N (T.setTop (mkF m pc Ls (.int y :: .int x :: rest))) :=
  own_go (fun _ k => XS.icmpNo X.here hx rfl hd rfl (flt h).1 k) k
theorem own_ic_lt (X : Stand p l e R s m args below meth c T locs cells slots) (hx : p.tables.exec = Jvm.exec) {pc pc' : Nat} {Ls : Array Slot} {rest : List Value} {o : Int} {x y : Int32} (hd : decode c.code pc = .ok (.if_icmp .lt o, 3)) (ho : 0 ≤ (pc : Int) + o) (hp : ((pc : Int) + o).toNat = pc') (ky : x < y → own_G p e below s Q K N (T.setTop (mkF m pc' Ls rest))) (kn : ¬ (x < y) → own_G p e below s Q K N (T.setTop (mkF m (pc + 3) Ls rest))) : own_G p e below s Q K N (T.setTop (mkF m pc Ls (.int y :: .int x :: rest))) := by
  by_cases h : x < y
  · exact own_ic_ltY X hx hd ho hp h (ky h)
  · exact own_ic_ltN X hx hd h (kn h)
theorem own_if_ltY (X : Stand p l e R s m args below meth c T locs cells slots) (hx : p.tables.exec = Jvm.exec) {pc pc' : Nat} {Ls : Array Slot} {rest : List Value} {o : Int} {x : Int32} (hd : decode c.code pc = .ok (.ifCond .lt o, 3)) (ho : 0 ≤ (pc : Int) + o) (hp : ((pc : Int) + o).toNat = pc') (h : x < 0) (k : own_G p e below s Q K N (T.setTop (mkF m pc' Ls rest))) : own_G p e below s Q K N (T.setTop (mkF m pc Ls (.int x :: rest))) :=
  own_go (fun _ k => XS.ifYes X.here hx rfl (pc0 := pc) (pc' := pc') rfl hd rfl ((if0 _ _).trans (tlt h).1) ho hp k) k
theorem own_if_ltN (X : Stand p l e R s m args below meth c T locs cells slots) (hx : p.tables.exec = Jvm.exec) {pc : Nat} {Ls : Array Slot} {rest : List Value} {o : Int} {x : Int32} (hd : decode c.code pc = .ok (.ifCond .lt o, 3)) (h : ¬ (x < 0)) (k : own_G p e below s Q K N (T.setTop (mkF m (pc + 3) Ls rest))) : own_G p e below s Q K N (T.setTop (mkF m pc Ls (.int x :: rest))) :=
  own_go (fun _ k => XS.ifNo X.here hx rfl hd rfl ((if0 _ _).trans (flt h).1) k) k
theorem own_if_lt (X : Stand p l e R s m args below meth c T locs cells slots) (hx : p.tables.exec = Jvm.exec) {pc pc' : Nat} {Ls : Array Slot} {rest : List Value} {o : Int} {x : Int32} (hd : decode c.code pc = .ok (.ifCond .lt o, 3)) (ho : 0 ≤ (pc : Int) + o) (hp : ((pc : Int) + o).toNat = pc') (ky : x < 0 → own_G p e below s Q K N (T.setTop (mkF m pc' Ls rest))) (kn : ¬ (x < 0) → own_G p e below s Q K N (T.setTop (mkF m (pc + 3) Ls rest))) : own_G p e below s Q K N (T.setTop (mkF m pc Ls (.int x :: rest))) := by
  by_cases h : x < 0
  · exact own_if_ltY X hx hd ho hp h (ky h)
  · exact own_if_ltN X hx hd h (kn h)
theorem own_ic_geY (X : Stand p l e R s m args below meth c T locs cells slots) (hx : p.tables.exec = Jvm.exec) {pc pc' : Nat} {Ls : Array Slot} {rest : List Value} {o : Int} {x y : Int32} (hd : decode c.code pc = .ok (.if_icmp .ge o, 3)) (ho : 0 ≤ (pc : Int) + o) (hp : ((pc : Int) + o).toNat = pc') (h : ¬ (x < y)) (k : own_G p e below s Q K N (T.setTop (mkF m pc' Ls rest))) : own_G p e below s Q K N (T.setTop (mkF m pc Ls (.int y :: .int x :: rest))) :=
  own_go (fun _ k => XS.icmpYes X.here hx rfl (pc0 := pc) (pc' := pc') rfl hd rfl (flt h).2.1 ho hp k) k
theorem own_ic_geN (X : Stand p l e R s m args below meth c T locs cells slots) (hx : p.tables.exec = Jvm.exec) {pc : Nat} {Ls : Array Slot} {rest : List Value} {o : Int} {x y : Int32} (hd : decode c.code pc = .ok (.if_icmp .ge o, 3)) (h : x < y) (k : own_G p e below s Q K N (T.setTop (mkF m (pc + 3) Ls rest))) : own_G p e below s Q K N (T.setTop (mkF m pc Ls (.int y :: .int x :: rest))) :=
  own_go (fun _ k => XS.icmpNo X.here hx rfl hd rfl (tlt h).2.1 k) k
theorem own_ic_ge (X : Stand p l e R s m args below meth c T locs cells slots) (hx : p.tables.exec = Jvm.exec) {pc pc' : Nat} {Ls : Array Slot} {rest : List Value} {o : Int} {x y : Int32} (hd : decode c.code pc = .ok (.if_icmp .ge o, 3)) (ho : 0 ≤ (pc : Int) + o) (hp : ((pc : Int) + o).toNat = pc') (ky : ¬ (x < y) → own_G p e below s Q K N (T.setTop (mkF m pc' Ls rest))) (kn : x < y → own_G p e below s Q K N (T.setTop (mkF m (pc + 3) Ls rest))) : own_G p e below s Q K N (T.setTop (mkF m pc Ls (.int y :: .int x :: rest))) := by
  by_cases h : x < y
  · exact own_ic_geN X hx hd h (kn h)
  · exact own_ic_geY X hx hd ho hp h (ky h)
theorem own_if_geY (X : Stand p l e R s m args below meth c T locs cells slots) (hx : p.tables.exec = Jvm.exec) {pc pc' : Nat} {Ls : Array Slot} {rest : List Value} {o : Int} {x : Int32} (hd : decode c.code pc = .ok (.ifCond .ge o, 3)) (ho : 0 ≤ (pc : Int) + o) (hp : ((pc : Int) + o).toNat = pc') (h : ¬ (x < 0)) (k : own_G p e below s Q K N (T.setTop (mkF m pc' Ls rest))) : own_G p e below s Q K N (T.setTop (mkF m pc Ls (.int x :: rest))) :=
  own_go (fun _ k => XS.ifYes X.here hx rfl (pc0 := pc) (pc' := pc') rfl hd rfl ((if0 _ _).trans (flt h).2.1) ho hp k) k
theorem own_if_geN (X : Stand p l e R s m args below meth c T locs cells slots) (hx : p.tables.exec = Jvm.exec) {pc : Nat} {Ls : Array Slot} {rest : List Value} {o : Int} {x : Int32} (hd : decode c.code pc = .ok (.ifCond .ge o, 3)) (h : x < 0) (k : own_G p e below s Q K N (T.setTop (mkF m (pc + 3) Ls rest))) : own_G p e below s Q K N (T.setTop (mkF m pc Ls (.int x :: rest))) :=
  own_go (fun _ k => XS.ifNo X.here hx rfl hd rfl ((if0 _ _).trans (tlt h).2.1) k) k
theorem own_if_ge (X : Stand p l e R s m args below meth c T locs cells slots) (hx : p.tables.exec = Jvm.exec) {pc pc' : Nat} {Ls : Array Slot} {rest : List Value} {o : Int} {x : Int32} (hd : decode c.code pc = .ok (.ifCond .ge o, 3)) (ho : 0 ≤ (pc : Int) + o) (hp : ((pc : Int) + o).toNat = pc') (ky : ¬ (x < 0) → own_G p e below s Q K N (T.setTop (mkF m pc' Ls rest))) (kn : x < 0 → own_G p e below s Q K N (T.setTop (mkF m (pc + 3) Ls rest))) : own_G p e below s Q K N (T.setTop (mkF m pc Ls (.int x :: rest))) := by
  by_cases h : x < 0
  · exact own_if_geN X hx hd h (kn h)
  · exact own_if_geY X hx hd ho hp h (ky h)
theorem own_ic_gtY (X : Stand p l e R s m args below meth c T locs cells slots) (hx : p.tables.exec = Jvm.exec) {pc pc' : Nat} {Ls : Array Slot} {rest : List Value} {o : Int} {x y : Int32} (hd : decode c.code pc = .ok (.if_icmp .gt o, 3)) (ho : 0 ≤ (pc : Int) + o) (hp : ((pc : Int) + o).toNat = pc') (h : y < x) (k : own_G p e below s Q K N (T.setTop (mkF m pc' Ls rest))) : own_G p e below s Q K N (T.setTop (mkF m pc Ls (.int y :: .int x :: rest))) :=
  own_go (fun _ k => XS.icmpYes X.here hx rfl (pc0 := pc) (pc' := pc') rfl hd rfl (tlt h).2.2.1 ho hp k) k
theorem own_ic_gtN (X : Stand p l e R s m args below meth c T locs cells slots) (hx : p.tables.exec = Jvm.exec) {pc : Nat} {Ls : Array Slot} {rest : List Value} {o : Int} {x y : Int32} (hd : decode c.code pc = .ok (.if_icmp .gt o, 3)) (h : ¬ (y < x)) (k : own_G p e below s Q K N (T.setTop (mkF m (pc + 3) Ls rest))) : own_G p e below s Q K N (T.setTop (mkF m pc Ls (.int y :: .int x :: rest))) :=
  own_go (fun _ k => XS.icmpNo X.here hx rfl hd rfl (flt h).2.2.1 k) k
theorem own_ic_gt (X : Stand p l e R s m args below meth c T locs cells slots) (hx : p.tables.exec = Jvm.exec) {pc pc' : Nat} {Ls : Array Slot} {rest : List Value} {o : Int} {x y : Int32} (hd : decode c.code pc = .ok (.if_icmp .gt o, 3)) (ho : 0 ≤ (pc : Int) + o) (hp : ((pc : Int) + o).toNat = pc') (ky : y < x → own_G p e below s Q K N (T.setTop (mkF m pc' Ls rest))) (kn : ¬ (y < x) → own_G p e below s Q K N (T.setTop (mkF m (pc + 3) Ls rest))) : own_G p e below s Q K N (T.setTop (mkF m pc Ls (.int y :: .int x :: rest))) := by
  by_cases h : y < x
  · exact own_ic_gtY X hx hd ho hp h (ky h)
  · exact own_ic_gtN X hx hd h (kn h)
theorem own_if_gtY (X : Stand p l e R s m args below meth c T locs cells slots) (hx : p.tables.exec = Jvm.exec) {pc pc' : Nat} {Ls : Array Slot} {rest : List Value} {o : Int} {x : Int32} (hd : decode c.code pc = .ok (.ifCond .gt o, 3)) (ho : 0 ≤ (pc : Int) + o) (hp : ((pc : Int) + o).toNat = pc') (h : 0 < x) (k : own_G p e below s Q K N (T.setTop (mkF m pc' Ls rest))) : own_G p e below s Q K N (T.setTop (mkF m pc Ls (.int x :: rest))) :=
  own_go (fun _ k => XS.ifYes X.here hx rfl (pc0 := pc) (pc' := pc') rfl hd rfl ((if0 _ _).trans (tlt h).2.2.1) ho hp k) k
theorem own_if_gtN (X : Stand p l e R s m args below meth c T locs cells slots) (hx : p.tables.exec = Jvm.exec) {pc : Nat} {Ls : Array Slot} {rest : List Value} {o : Int} {x : Int32} (hd : decode c.code pc = .ok (.ifCond .gt o, 3)) (h : ¬ (0 < x)) (k : own_G p e below s Q K N (T.setTop (mkF m (pc + 3) Ls rest))) : own_G p e below s Q K N (T.setTop (mkF m pc Ls (.int x :: rest))) :=
  own_go (fun _ k => XS.ifNo X.here hx rfl hd rfl ((if0 _ _).trans (flt h).2.2.1) k) k
theorem own_if_gt (X : Stand p l e R s m args below meth c T locs cells slots) (hx : p.tables.exec = Jvm.exec) {pc pc' : Nat} {Ls : Array Slot} {rest : List Value} {o : Int} {x : Int32} (hd : decode c.code pc = .ok (.ifCond .gt o, 3)) (ho : 0 ≤ (pc : Int) + o) (hp : ((pc : Int) + o).toNat = pc') (ky : 0 < x → own_G p e below s Q K N (T.setTop (mkF m pc' Ls rest))) (kn : ¬ (0 < x) → own_G p e below s Q K N (T.setTop (mkF m (pc + 3) Ls rest))) : own_G p e below s Q K N (T.setTop (mkF m pc Ls (.int x :: rest))) := by
  by_cases h : 0 < x
  · exact own_if_gtY X hx hd ho hp h (ky h)
  · exact own_if_gtN X hx hd h (kn h)
theorem own_ic_leY (X : Stand p l e R s m args below meth c T locs cells slots) (hx : p.tables.exec = Jvm.exec) {pc pc' : Nat} {Ls : Array Slot} {rest : List Value} {o : Int} {x y : Int32} (hd : decode c.code pc = .ok (.if_icmp .le o, 3)) (ho : 0 ≤ (pc : Int) + o) (hp : ((pc : Int) + o).toNat = pc') (h : ¬ (y < x)) (k : own_G p e below s Q K N (T.setTop (mkF m pc' Ls rest))) : own_G p e below s Q K N (T.setTop (mkF m pc Ls (.int y :: .int x :: rest))) :=
  own_go (fun _ k => XS.icmpYes X.here hx rfl (pc0 := pc) (pc' := pc') rfl hd rfl (flt h).2.2.2 ho hp k) k
theorem own_ic_leN (X : Stand p l e R s m args below meth c T locs cells slots) (hx : p.tables.exec = Jvm.exec) {pc : Nat} {Ls : Array Slot} {rest : List Value} {o : Int} {x y : Int32} (hd : decode c.code pc = .ok (.if_icmp .le o, 3)) (h : y < x) (k : own_G p e below s Q K N (T.setTop (mkF m (pc + 3) Ls rest))) : own_G p e below s Q K N (T.setTop (mkF m pc Ls (.int y :: .int x :: rest))) :=
  own_go (fun _ k => XS.icmpNo X.here hx rfl hd rfl (tlt h).2.2.2 k) k
theorem own_ic_le (X : Stand p l e R s m args below meth c T locs cells slots) (hx : p.tables.exec = Jvm.exec) {pc pc' : Nat} {Ls : Array Slot} {rest : List Value} {o : Int} {x y : Int32} (hd : decode c.code pc = .ok (.if_icmp .le o, 3)) (ho : 0 ≤ (pc : Int) + o) (hp : ((pc : Int) + o).toNat = pc') (ky : ¬ (y < x) → own_G p e below s Q K N (T.setTop (mkF m pc' Ls rest))) (kn : y < x → own_G p e below s Q K N (T.setTop (mkF m (pc + 3) Ls rest))) : own_G p e below s Q K N (T.setTop (mkF m pc Ls (.int y :: .int x :: rest))) := by
  by_cases h : y < x
  · exact own_ic_leN X hx hd h (kn h)
  · exact own_ic_leY X hx hd ho hp h (ky h)
theorem own_if_leY (X : Stand p l e R s m args below meth c T locs cells slots) (hx : p.tables.exec = Jvm.exec) {pc pc' : Nat} {Ls : Array Slot} {rest : List Value} {o : Int} {x : Int32} (hd : decode c.code pc = .ok (.ifCond .le o, 3)) (ho : 0 ≤ (pc : Int) + o) (hp : ((pc : Int) + o).toNat = pc') (h : ¬ (0 < x)) (k : own_G p e below s Q K N (T.setTop (mkF m pc' Ls rest))) : own_G p e below s Q K N (T.setTop (mkF m pc Ls (.int x :: rest))) :=
  own_go (fun _ k => XS.ifYes X.here hx rfl (pc0 := pc) (pc' := pc') rfl hd rfl ((if0 _ _).trans (flt h).2.2.2) ho hp k) k
theorem own_if_leN (X : Stand p l e R s m args below meth c T locs cells slots) (hx : p.tables.exec = Jvm.exec) {pc : Nat} {Ls : Array Slot} {rest : List Value} {o : Int} {x : Int32} (hd : decode c.code pc = .ok (.ifCond .le o, 3)) (h : 0 < x) (k : own_G p e below s Q K N (T.setTop (mkF m (pc + 3) Ls rest))) : own_G p e below s Q K N (T.setTop (mkF m pc Ls (.int x :: rest))) :=
  own_go (fun _ k => XS.ifNo X.here hx rfl hd rfl ((if0 _ _).trans (tlt h).2.2.2) k) k
theorem own_if_le (X : Stand p l e R s m args below meth c T locs cells slots) (hx : p.tables.exec = Jvm.exec) {pc pc' : Nat} {Ls : Array Slot} {rest : List Value} {o : Int} {x : Int32} (hd : decode c.code pc = .ok (.ifCond .le o, 3)) (ho : 0 ≤ (pc : Int) + o) (hp : ((pc : Int) + o).toNat = pc') (ky : ¬ (0 < x) → own_G p e below s Q K N (T.setTop (mkF m pc' Ls rest))) (kn : 0 < x → own_G p e below s Q K N (T.setTop (mkF m (pc + 3) Ls rest))) : own_G p e below s Q K N (T.setTop (mkF m pc Ls (.int x :: rest))) := by
  by_cases h : 0 < x
  · exact own_if_leN X hx hd h (kn h)
  · exact own_if_leY X hx hd ho hp h (ky h)
theorem own_ic_eqY (X : Stand p l e R s m args below meth c T locs cells slots) (hx : p.tables.exec = Jvm.exec) {pc pc' : Nat} {Ls : Array Slot} {rest : List Value} {o : Int} {x y : Int32} (hd : decode c.code pc = .ok (.if_icmp .eq o, 3)) (ho : 0 ≤ (pc : Int) + o) (hp : ((pc : Int) + o).toNat = pc') (h : x = y) (k : own_G p e below s Q K N (T.setTop (mkF m pc' Ls rest))) : own_G p e below s Q K N (T.setTop (mkF m pc Ls (.int y :: .int x :: rest))) :=
  own_go (fun _ k => XS.icmpYes X.here hx rfl (pc0 := pc) (pc' := pc') rfl hd rfl (teq h).1 ho hp k) k
theorem own_ic_eqN (X : Stand p l e R s m args below meth c T locs cells slots) (hx : p.tables.exec = Jvm.exec) {pc : Nat} {Ls : Array Slot} {rest : List Value} {o : Int} {x y : Int32} (hd : decode c.code pc = .ok (.if_icmp .eq o, 3)) (h : ¬ (x = y)) (k : own_G p e below s Q K N (T.setTop (mkF m (pc + 3) Ls rest))) : own_G p e below s Q K N (T.setTop (mkF m pc Ls (.int y :: .int x :: rest))) :=
  own_go (fun _ k => XS.icmpNo X.here hx rfl hd rfl (feq h).1 k) k
theorem own_ic_eq (X : Stand p l e R s m args below meth c T locs cells slots) (hx : p.tables.exec = Jvm.exec) {pc pc' : Nat} {Ls : Array Slot} {rest : List Value} {o : Int} {x y : Int32} (hd : decode c.code pc = .ok (.if_icmp .eq o, 3)) (ho : 0 ≤ (pc : Int) + o) (hp : ((pc : Int) + o).toNat = pc') (ky : x = y → own_G p e below s Q K N (T.setTop (mkF m pc' Ls rest))) (kn : ¬ (x = y) → own_G p e below s Q K N (T.setTop (mkF m (pc + 3) Ls rest))) : own_G p e below s Q K N (T.setTop (mkF m pc Ls (.int y :: .int x :: rest))) := by
  by_cases h : x = y
  · exact own_ic_eqY X hx hd ho hp h (ky h)
  · exact own_ic_eqN X hx hd h (kn h)
theorem own_if_eqY (X : Stand p l e R s m args below meth c T locs cells slots) (hx : p.tables.exec = Jvm.exec) {pc pc' : Nat} {Ls : Array Slot} {rest : List Value} {o : Int} {x : Int32} (hd : decode c.code pc = .ok (.ifCond .eq o, 3)) (ho : 0 ≤ (pc : Int) + o) (hp : ((pc : Int) + o).toNat = pc') (h : x = 0) (k : own_G p e below s Q K N (T.setTop (mkF m pc' Ls rest))) : own_G p e below s Q K N (T.setTop (mkF m pc Ls (.int x :: rest))) :=
  own_go (fun _ k => XS.ifYes X.here hx rfl (pc0 := pc) (pc' := pc') rfl hd rfl ((if0 _ _).trans (teq h).1) ho hp k) k
theorem own_if_eqN (X : Stand p l e R s m args below meth c T locs cells slots) (hx : p.tables.exec = Jvm.exec) {pc : Nat} {Ls : Array Slot} {rest : List Value} {o : Int} {x : Int32} (hd : decode c.code pc = .ok (.ifCond .eq o, 3)) (h : ¬ (x = 0)) (k : own_G p e below s Q K N (T.setTop (mkF m (pc + 3) Ls rest))) : own_G p e below s Q K N (T.setTop (mkF m pc Ls (.int x :: rest))) :=
  own_go (fun _ k => XS.ifNo X.here hx rfl hd rfl ((if0 _ _).trans (feq h).1) k) k
theorem own_if_eq (X : Stand p l e R s m args below meth c T locs cells slots) (hx : p.tables.exec = Jvm.exec) {pc pc' : Nat} {Ls : Array Slot} {rest : List Value} {o : Int} {x : Int32} (hd : decode c.code pc = .ok (.ifCond .eq o, 3)) (ho : 0 ≤ (pc : Int) + o) (hp : ((pc : Int) + o).toNat = pc') (ky : x = 0 → own_G p e below s Q K N (T.setTop (mkF m pc' Ls rest))) (kn : ¬ (x = 0) → own_G p e below s Q K N (T.setTop (mkF m (pc + 3) Ls rest))) : own_G p e below s Q K N (T.setTop (mkF m pc Ls (.int x :: rest))) := by
  by_cases h : x = 0
  · exact own_if_eqY X hx hd ho hp h (ky h)
  · exact own_if_eqN X hx hd h (kn h)
theorem own_ic_neY (X : Stand p l e R s m args below meth c T locs cells slots) (hx : p.tables.exec = Jvm.exec) {pc pc' : Nat} {Ls : Array Slot} {rest : List Value} {o : Int} {x y : Int32} (hd : decode c.code pc = .ok (.if_icmp .ne o, 3)) (ho : 0 ≤ (pc : Int) + o) (hp : ((pc : Int) + o).toNat = pc') (h : ¬ (x = y)) (k : own_G p e below s Q K N (T.setTop (mkF m pc' Ls rest))) : own_G p e below s Q K N (T.setTop (mkF m pc Ls (.int y :: .int x :: rest))) :=
  own_go (fun _ k => XS.icmpYes X.here hx rfl (pc0 := pc) (pc' := pc') rfl hd rfl (feq h).2 ho hp k) k
theorem own_ic_neN (X : Stand p l e R s m args below meth c T locs cells slots) (hx : p.tables.exec = Jvm.exec) {pc : Nat} {Ls : Array Slot} {rest : List Value} {o : Int} {x y : Int32} (hd : decode c.code pc = .ok (.if_icmp .ne o, 3)) (h : x = y) (k : own_G p e below s Q K N (T.setTop (mkF m (pc + 3) Ls rest))) : own_G p e below s Q K N (T.setTop (mkF m pc Ls (.int y :: .int x :: rest))) :=
  own_go (fun _ k => XS.icmpNo X.here hx rfl hd rfl (teq h).2 k) k
theorem own_ic_ne (X : Stand p l e R s m args below meth c T locs cells slots) (hx : p.tables.exec = Jvm.exec) {pc pc' : Nat} {Ls : Array Slot} {rest : List Value} {o : Int} {x y : Int32} (hd : decode c.code pc = .ok (.if_icmp .ne o, 3)) (ho : 0 ≤ (pc : Int) + o) (hp : ((pc : Int) + o).toNat = pc') (ky : ¬ (x = y) → own_G p e below s Q K N (T.setTop (mkF m pc' Ls rest))) (kn : x = y → own_G p e below s Q K N (T.setTop (mkF m (pc + 3) Ls rest))) : own_G p e below s Q K N (T.setTop (mkF m pc Ls (.int y :: .int x :: rest))) := by
  by_cases h : x = y
  · exact own_ic_neN X hx hd h (kn h)
  · exact own_ic_neY X hx hd ho hp h (ky h)
theorem own_if_neY (X : Stand p l e R s m args below meth c T locs cells slots) (hx : p.tables.exec = Jvm.exec) {pc pc' : Nat} {Ls : Array Slot} {rest : List Value} {o : Int} {x : Int32} (hd : decode c.code pc = .ok (.ifCond .ne o, 3)) (ho : 0 ≤ (pc : Int) + o) (hp : ((pc : Int) + o).toNat = pc') (h : ¬ (x = 0)) (k : own_G p e below s Q K N (T.setTop (mkF m pc' Ls rest))) : own_G p e below s Q K N (T.setTop (mkF m pc Ls (.int x :: rest))) :=
  own_go (fun _ k => XS.ifYes X.here hx rfl (pc0 := pc) (pc' := pc') rfl hd rfl ((if0 _ _).trans (feq h).2) ho hp k) k
theorem own_if_neN (X : Stand p l e R s m args below meth c T locs cells slots) (hx : p.tables.exec = Jvm.exec) {pc : Nat} {Ls : Array Slot} {rest : List Value} {o : Int} {x : Int32} (hd : decode c.code pc = .ok (.ifCond .ne o, 3)) (h : x = 0) (k : own_G p e below s Q K N (T.setTop (mkF m (pc + 3) Ls rest))) : own_G p e below s Q K N (T.setTop (mkF m pc Ls (.int x :: rest))) :=
  own_go (fun _ k => XS.ifNo X.here hx rfl hd rfl ((if0 _ _).trans (teq h).2) k) k
theorem own_if_ne (X : Stand p l e R s m args below meth c T locs cells slots) (hx : p.tables.exec = Jvm.exec) {pc pc' : Nat} {Ls : Array Slot} {rest : List Value} {o : Int} {x : Int32} (hd : decode c.code pc = .ok (.ifCond .ne o, 3)) (ho : 0 ≤ (pc : Int) + o) (hp : ((pc : Int) + o).toNat = pc') (ky : ¬ (x = 0) → own_G p e below s Q K N (T.setTop (mkF m pc' Ls rest))) (kn : x = 0 → own_G p e below s Q K N (T.setTop (mkF m (pc + 3) Ls rest))) : own_G p e below s Q K N (T.setTop (mkF m pc Ls (.int x :: rest))) := by
  by_cases h : x = 0
  · exact own_if_neN X hx hd h (kn h)
  · exact own_if_neY X hx hd ho hp h (ky h)
theorem own_nar1 : nar .boolean (1 : Int32) = 1 := rfl
theorem own_nar0 : nar .boolean (0 : Int32) = 0 := rfl
theorem own_mask (x : Int32) (k : Nat) (hk : k < 2147483648) : ∃ n : Nat, n ≤ k ∧ (x &&& Int32.ofNat k) = Int32.ofNat n := by
  refine ⟨(x &&& Int32.ofNat k).toBitVec.toNat, ?_, ?_⟩
  · have h : (Int32.ofNat k).toBitVec.toNat = k := by
      show (BitVec.ofNat 32 k).toNat = k
      rw [BitVec.toNat_ofNat]; omega
    simp only [Int32.toBitVec_and, BitVec.toNat_and, h]
    exact Nat.and_le_right
  · apply Int32.toBitVec_inj.mp
    show _ = BitVec.ofNat 32 _
    rw [BitVec.ofNat_toNat]; simp
end OwnKit
theorem d2_0 : decode prog_17_method_1_code 0 = .ok (.aload_n 0, 1) := by decide +kernel
theorem d2_1 : decode prog_17_method_1_code 1 = .ok (.invokespecial 3, 3) := by decide +kernel
theorem d2_4 : decode prog_17_method_1_code 4 = .ok (.aload_n 0, 1) := by decide +kernel
theorem d2_5 : decode prog_17_method_1_code 5 = .ok (.lload_n 1, 1) := by decide +kernel
theorem d2_6 : decode prog_17_method_1_code 6 = .ok (.putfield 9, 3) := by decide +kernel
theorem d2_9 : decode prog_17_method_1_code 9 = .ok (.return_, 1) := by decide +kernel
theorem pn_0 : plainName "com/example/sixteenfold/sixteenfold/files/PixelLimit" = true := by first | (simp [plainName, overriddenIn]; done) | decide +kernel
theorem ef_rmI (m : MethodId) (x0 : Addr) (x1 : Int64) : entryFrame m #[(.ref x0), (.long x1)] 3 = mkF m 0 #[.val (.ref x0), .val (.long x1), .second] [] := by first | (simp [entryFrame, mkF, argsToLocals, Value.category]; done) | rfl
def Q_rmI (Z : State) (a : Addr) (x1 : Int64) (h0 : Heap) (n0 : Nat) : Option Value → Heap → List Loc → Prop := fun v h L => v = none ∧ Fr n0 L ∧ n0 ≤ h.size ∧ Exa Z h a "com/example/sixteenfold/sixteenfold/files/PixelLimit" ∧ Fld Z h a "com/example/sixteenfold/sixteenfold/files/PixelLimit" "max" "J" (.long x1)
set_option maxRecDepth 65536 in
set_option maxHeartbeats 40000000 in
theorem rmI (l : Launch) (Z : State) (a0 : Array Value) (hw : ∀ d ∈ tables_1, d.before a0 Z = true) (ws : List Jvm.Cond) (a : Addr) (x1 : Int64) (h0 : Heap) (n0 : Nat) (Z0 : n0 ≤ h0.size) (E_a : Exa Z h0 a "com/example/sixteenfold/sixteenfold/files/PixelLimit") (g_a : n0 ≤ a) (F_max : Fld Z h0 a "com/example/sixteenfold/sixteenfold/files/PixelLimit" "max" "J" (.long 0)) :
    MetFree l (⟨"com/example/sixteenfold/sixteenfold/files/PixelLimit", "<init>", "(J)V"⟩ : MethodName) (head1 (Jvm.Cond.code (⟨"com/example/sixteenfold/sixteenfold/files/PixelLimit", "<init>", "(J)V"⟩ : MethodName) prog_17_method_1_code 3 none :: ws) ({ frames := 1, cells := 0, slots := 0, locals := 12 } : Room)) (fun as_ U => as_ = #[(.ref a), (.long x1)] ∧ Z.Warmed39 U.vm ∧ U.heap = h0) (fun _ _ _ _ _ => True) (fun _ U o U' => ∃ v L, o = .returned v ∧ (Q_rmI Z a x1 h0 n0) v U'.heap L ∧ FrameEnd U o U' L ({ frames := 1, cells := 0, slots := 0, locals := 12 } : Room).cells ({ frames := 1, cells := 0, slots := 0, locals := 12 } : Room).slots) := by
  refine MetFree.of_bodySF (plainFor_of_name pn_0) hisR ?_
  intro p e s m args below meth c s₁ Bd hml0 hP hK
  obtain ⟨rfl, hZ, hh⟩ := hP
  have hx := Bd.exec
  have hby := Bd.bytes
  have hml : c.maxLocals = 3 := hml0
  have hown : s.vm.findClass "com/example/sixteenfold/sixteenfold/files/PixelLimit" = some m.cls := findClass_of_methodNamed Bd.named
  have hnm := (name_of_methodNamed Bd.named Bd.method).1
  have X0 : Stand p l e ({ frames := 1, cells := 0, slots := 0, locals := 12 } : Room) s m #[(.ref a), (.long x1)] below meth c s₁ [] 0 0 := Stand.of_body Bd
  have e0 : s₁.heap = h0 := by rw [← hh, Bd.state]; rfl
  have N0 := Fr.nil n0
  show own_G p e below s (Q_rmI Z a x1 h0 n0) ({ frames := 1, cells := 0, slots := 0, locals := 12 } : Room).cells ({ frames := 1, cells := 0, slots := 0, locals := 12 } : Room).slots (s₁.setTop (entryFrame m #[(.ref a), (.long x1)] 3))
  rw [ef_rmI m a x1]
  show own_G p e below s _ _ _ (s₁.setTop (mkF m 0 #[.val (.ref a), .val (.long x1), .second] []))
  refine own_go (fun _ k => XS.aloadN X0.here hx rfl (hb hby d2_0) rfl rfl k) ?_
  show own_G p e below s _ _ _ (s₁.setTop (mkF m 1 #[.val (.ref a), .val (.long x1), .second] [(.ref a)]))
  obtain ⟨T1, X1, e1, st1⟩ := initO X0 hx hZ hown (hw _ (List.mem_of_getElem? (i := 11) rfl)) (hw _ (List.mem_of_getElem? (i := 12) rfl)) (hw _ (List.mem_of_getElem? (i := 13) rfl)) e0 (g := (mkF m 1 #[.val (.ref a), .val (.long x1), .second] [(.ref a)])) rfl (by rw [hml]; rfl) rfl (hb hby d2_1) (by decide) (W := 0) (by show 2 * 0 + _ ≤ _; exact Nat.le_of_eq rfl) (by decide)
  refine own_go st1 ?_
  show own_G p e below s _ _ _ (T1.setTop (mkF m 4 #[.val (.ref a), .val (.long x1), .second] []))
  refine own_go (fun _ k => XS.aloadN X1.here hx rfl (hb hby d2_4) rfl rfl k) ?_
  show own_G p e below s _ _ _ (T1.setTop (mkF m 5 #[.val (.ref a), .val (.long x1), .second] [(.ref a)]))
  refine own_go (fun _ k => XS.lloadN X1.here hx rfl (hb hby d2_5) rfl k) ?_
  show own_G p e below s _ _ _ (T1.setTop (mkF m 6 #[.val (.ref a), .val (.long x1), .second] [(.long x1), (.ref a)]))
  obtain ⟨T2, h2, X2, e2, W2, st2⟩ := putF X1 hx hZ hown (host := "") (Or.inl (hw _ (List.mem_of_getElem? (i := 14) rfl))) Via.refl e1 F_max E_a (Or.inr ⟨(hw _ (List.mem_of_getElem? (i := 15) rfl)), rfl, hnm⟩) (hw _ (List.mem_of_getElem? (i := 7) rfl)) (ty := .long) (by decide) rfl rfl (g := (mkF m 6 #[.val (.ref a), .val (.long x1), .second] [(.long x1), (.ref a)])) rfl rfl (hb hby d2_6)
  refine own_go st2 ?_
  have E2_a := E_a.wr W2
  have F2_a_max := F_max.same W2
  have Z2 : n0 ≤ h2.size := by rw [W2.size]; exact Z0
  have N2 := Fr.snoc X2 N0 g_a
  show own_G p e below s _ _ _ (T2.setTop (mkF m 9 #[.val (.ref a), .val (.long x1), .second] []))
  exact own_ret0 X2 hx Bd.returns (BodyLoose.notSynchronized Bd) (hb hby d2_9) e2 ⟨rfl, N2, Z2, E2_a, F2_a_max⟩ (by decide) (by decide)
theorem d1_0 : decode prog_17_method_2_code 0 = .ok (.lload_n 0, 1) := by decide +kernel
theorem d1_1 : decode prog_17_method_2_code 1 = .ok (.lconst 1, 1) := by decide +kernel
theorem d1_2 : decode prog_17_method_2_code 2 = .ok (.lcmp, 1) := by decide +kernel
theorem d1_3 : decode prog_17_method_2_code 3 = .ok (.ifCond .lt 11, 3) := by decide +kernel
theorem d1_6 : decode prog_17_method_2_code 6 = .ok (.lload_n 0, 1) := by decide +kernel
theorem d1_7 : decode prog_17_method_2_code 7 = .ok (.ldc2_w 15, 3) := by decide +kernel
theorem d1_10 : decode prog_17_method_2_code 10 = .ok (.lcmp, 1) := by decide +kernel
theorem d1_11 : decode prog_17_method_2_code 11 = .ok (.ifCond .le 17, 3) := by decide +kernel
theorem d1_28 : decode prog_17_method_2_code 28 = .ok (.new 10, 3) := by decide +kernel
theorem d1_31 : decode prog_17_method_2_code 31 = .ok (.dup, 1) := by decide +kernel
theorem d1_32 : decode prog_17_method_2_code 32 = .ok (.lload_n 0, 1) := by decide +kernel
theorem d1_33 : decode prog_17_method_2_code 33 = .ok (.invokespecial 26, 3) := by decide +kernel
theorem d1_36 : decode prog_17_method_2_code 36 = .ok (.areturn, 1) := by decide +kernel
theorem pd_0 : parseMethodDescriptor "(J)V" = some ⟨[.long], none⟩ := by decide +kernel
theorem ef_rmO (m : MethodId) (x0 : Int64) : entryFrame m #[(.long x0)] 2 = mkF m 0 #[.val (.long x0), .second] [] := by first | (simp [entryFrame, mkF, argsToLocals, Value.category]; done) | rfl
def Q_rmO (Z : State) (x0 : Int64) (h0 : Heap) (n0 : Nat) : Option Value → Heap → List Loc → Prop := fun v h L => ∃ b : Addr, v = some (.ref b) ∧ Fr n0 L ∧ n0 ≤ h.size ∧ Exa Z h b "com/example/sixteenfold/sixteenfold/files/PixelLimit" ∧ Fld Z h b "com/example/sixteenfold/sixteenfold/files/PixelLimit" "max" "J" (.long x0)
set_option maxRecDepth 65536 in
set_option maxHeartbeats 40000000 in
theorem rmO (l : Launch) (Z : State) (a0 : Array Value) (hw : ∀ d ∈ tables_1, d.before a0 Z = true) (ws : List Jvm.Cond) (x0 : Int64) (h0 : Heap) (n0 : Nat) (Z0 : n0 ≤ h0.size) (hlo : ¬ x0 < 1) (hhi : ¬ 2147483639 < x0) :
    MetFree l (⟨"com/example/sixteenfold/sixteenfold/files/PixelLimit", "of", "(J)Lcom/example/sixteenfold/sixteenfold/files/PixelLimit;"⟩ : MethodName) (head1 (Jvm.Cond.code (⟨"com/example/sixteenfold/sixteenfold/files/PixelLimit", "of", "(J)Lcom/example/sixteenfold/sixteenfold/files/PixelLimit;"⟩ : MethodName) prog_17_method_2_code 2 (some (.object "com/example/sixteenfold/sixteenfold/files/PixelLimit")) :: ws) ({ frames := 2, cells := 1, slots := 1, locals := 27 } : Room)) (fun as_ U => as_ = #[(.long x0)] ∧ Z.Warmed39 U.vm ∧ U.heap = h0) (fun _ _ _ _ _ => True) (fun _ U o U' => ∃ v L, o = .returned v ∧ (Q_rmO Z x0 h0 n0) v U'.heap L ∧ FrameEnd U o U' L ({ frames := 2, cells := 1, slots := 1, locals := 27 } : Room).cells ({ frames := 2, cells := 1, slots := 1, locals := 27 } : Room).slots) := by
  refine MetFree.of_bodySF (plainFor_of_name pn_0) hisR ?_
  intro p e s m args below meth c s₁ Bd hml0 hP hK
  obtain ⟨rfl, hZ, hh⟩ := hP
  have hx := Bd.exec
  have hby := Bd.bytes
  have hml : c.maxLocals = 2 := hml0
  have hown : s.vm.findClass "com/example/sixteenfold/sixteenfold/files/PixelLimit" = some m.cls := findClass_of_methodNamed Bd.named
  have hnm := (name_of_methodNamed Bd.named Bd.method).1
  have X0 : Stand p l e ({ frames := 2, cells := 1, slots := 1, locals := 27 } : Room) s m #[(.long x0)] below meth c s₁ [] 0 0 := Stand.of_body Bd
  have e0 : s₁.heap = h0 := by rw [← hh, Bd.state]; rfl
  have N0 := Fr.nil n0
  show own_G p e below s (Q_rmO Z x0 h0 n0) ({ frames := 2, cells := 1, slots := 1, locals := 27 } : Room).cells ({ frames := 2, cells := 1, slots := 1, locals := 27 } : Room).slots (s₁.setTop (entryFrame m #[(.long x0)] 2))
  rw [ef_rmO m x0]
  show own_G p e below s _ _ _ (s₁.setTop (mkF m 0 #[.val (.long x0), .second] []))
  refine own_go (fun _ k => XS.lloadN X0.here hx rfl (hb hby d1_0) rfl k) ?_
  show own_G p e below s _ _ _ (s₁.setTop (mkF m 1 #[.val (.long x0), .second] [(.long x0)]))
  refine own_go (fun _ k => XS.lconst X0.here hx rfl (hb hby d1_1) k) ?_
  show own_G p e below s _ _ _ (s₁.setTop (mkF m 2 #[.val (.long x0), .second] [(.long (1 : Int64)), (.long x0)]))
  refine own_go (fun _ k => XS.lcmp X0.here hx rfl (hb hby d1_2) rfl k) ?_
  show own_G p e below s _ _ _ (s₁.setTop (mkF m 3 #[.val (.long x0), .second] [(.int (lcmpW x0 (1 : Int64)))]))
  refine own_if_ltN X0 hx (pc := 3) (hb hby d1_3) (fun q => hlo ((lw_lt _ _).mp q)) ?_
  show own_G p e below s _ _ _ (s₁.setTop (mkF m 6 #[.val (.long x0), .second] []))
  refine own_go (fun _ k => XS.lloadN X0.here hx rfl (hb hby d1_6) rfl k) ?_
  show own_G p e below s _ _ _ (s₁.setTop (mkF m 7 #[.val (.long x0), .second] [(.long x0)]))
  refine own_go (fun _ k => X0.ldc2Long hx hown (mvT hZ (hw _ (List.mem_of_getElem? (i := 5) rfl))) (g := (mkF m 7 #[.val (.long x0), .second] [(.long x0)])) rfl (hb hby d1_7) _ k) ?_
  show own_G p e below s _ _ _ (s₁.setTop (mkF m 10 #[.val (.long x0), .second] [(.long (2147483639 : Int64)), (.long x0)]))
  refine own_go (fun _ k => XS.lcmp X0.here hx rfl (hb hby d1_10) rfl k) ?_
  show own_G p e below s _ _ _ (s₁.setTop (mkF m 11 #[.val (.long x0), .second] [(.int (lcmpW x0 (2147483639 : Int64)))]))
  refine own_if_leY X0 hx (pc := 11) (pc' := 28) (hb hby d1_11) (by decide) (by decide) (fun q => hhi ((lw_gt _ _).mp q)) ?_
  show own_G p e below s _ _ _ (s₁.setTop (mkF m 28 #[.val (.long x0), .second] []))
  obtain ⟨T1, h1, X1, e1, E1, A1, D1, -, st1⟩ := newO X0 hx hZ hown (hw _ (List.mem_of_getElem? (i := 6) rfl)) (hw _ (List.mem_of_getElem? (i := 7) rfl)) (hw _ (List.mem_of_getElem? (i := 3) rfl)) e0 (g := (mkF m 28 #[.val (.long x0), .second] [])) rfl (hb hby d1_28) (by decide) (by decide)
  obtain ⟨b1, g1⟩ : ∃ z, z = h0.size := ⟨_, rfl⟩
  rw [← g1] at A1 D1 st1
  refine own_go st1 ?_
  have g_b1 : n0 ≤ b1 := Nat.le_trans Z0 (Nat.le_of_eq g1.symm)
  have Z1 : n0 ≤ h1.size := Nat.le_trans Z0 E1.1
  have F1_b1_max : Fld Z h1 b1 "com/example/sixteenfold/sixteenfold/files/PixelLimit" "max" "J" (.long (0 : Int64)) := D1 (Or.inr (hw _ (List.mem_of_getElem? (i := 15) rfl))) (ty := .long) (by decide)
  show own_G p e below s _ _ _ (T1.setTop (mkF m 31 #[.val (.long x0), .second] [(.ref b1)]))
  refine own_go (fun _ k => XS.dup X1.here hx rfl (hb hby d1_31) rfl rfl k) ?_
  show own_G p e below s _ _ _ (T1.setTop (mkF m 32 #[.val (.long x0), .second] [(.ref b1), (.ref b1)]))
  refine own_go (fun _ k => XS.lloadN X1.here hx rfl (hb hby d1_32) rfl k) ?_
  show own_G p e below s _ _ _ (T1.setTop (mkF m 33 #[.val (.long x0), .second] [(.long x0), (.ref b1), (.ref b1)]))
  obtain ⟨_, _, ⟨T2, L2, k2, n2⟩, -, X2, ⟨Lc2, hQ2, l2, y2, z2⟩, st2⟩ := X1.specialBack hx (y := (⟨"com/example/sixteenfold/sixteenfold/files/PixelLimit", "<init>", "(J)V"⟩ : MethodName)) rfl hown (mvT hZ (hw _ (List.mem_of_getElem? (i := 8) rfl))) (mvT hZ (hw _ (List.mem_of_getElem? (i := 9) rfl))) (mvT hZ (hw _ (List.mem_of_getElem? (i := 10) rfl))) (by decide) (backOf (W := 1) (rmI l Z a0 hw [] b1 x0 h1 n0 Z1 A1 g_b1 F1_b1_max) hZ (hw _ (List.mem_of_getElem? (i := 10) rfl)) (hw _ (List.mem_of_getElem? (i := 3) rfl)) (by decide) (by decide)) (g := (mkF m 33 #[.val (.long x0), .second] [(.long x0), (.ref b1), (.ref b1)])) rfl (by rw [hml]; rfl) (Steps.refl _) (a := b1) (argsL := [(.long x0)]) (rest := [(.ref b1)]) (lenOf pd_0 rfl) rfl (by show 2 * 0 + _ ≤ _; exact Nat.le_of_eq rfl) (hb hby d1_33) (fun _ _ => ⟨rfl, e1, (by decide : 1 + 0 ≤ _), (by decide : 1 + 0 ≤ _)⟩)
  dsimp only [Pt.U, Pt.locs, Pt.cells, Pt.slots] at X2 l2 y2 z2 st2 hQ2
  subst l2 y2 z2
  generalize e2 : T2.heap = h2 at hQ2
  obtain ⟨rfl, N2q, Z2, E2, F2⟩ := hQ2
  have N2 := Fr.app N0 N2q
  refine own_go (fun _ k => st2.trans k) ?_
  show own_G p e below s _ _ _ (T2.setTop (mkF m 36 #[.val (.long x0), .second] [(.ref b1)]))
  exact own_retA (ht := rfl) (hv := rfl) X2 hx Bd.returns (BodyLoose.notSynchronized Bd) (hb hby d1_36) e2 ⟨_, rfl, N2, Z2, E2, F2⟩ (by decide) (by decide)
theorem d4_0 : decode prog_17_method_3_code 0 = .ok (.aload_n 0, 1) := by decide +kernel
theorem d4_1 : decode prog_17_method_3_code 1 = .ok (.getfield 9, 3) := by decide +kernel
theorem d4_4 : decode prog_17_method_3_code 4 = .ok (.lreturn, 1) := by decide +kernel
theorem ef_rmM (m : MethodId) (x0 : Addr) : entryFrame m #[(.ref x0)] 1 = mkF m 0 #[.val (.ref x0)] [] := by first | (simp [entryFrame, mkF, argsToLocals, Value.category]; done) | rfl
def Q_rmM (Z : State) (a : Addr) (x1 : Int64) (h0 : Heap) (n0 : Nat) : Option Value → Heap → List Loc → Prop := fun v h L => v = some (.long x1) ∧ Fr n0 L ∧ h = h0
set_option maxRecDepth 65536 in
set_option maxHeartbeats 40000000 in
theorem rmM (l : Launch) (Z : State) (a0 : Array Value) (hw : ∀ d ∈ tables_1, d.before a0 Z = true) (ws : List Jvm.Cond) (a : Addr) (x1 : Int64) (h0 : Heap) (n0 : Nat) (Z0 : n0 ≤ h0.size) (F_max : Fld Z h0 a "com/example/sixteenfold/sixteenfold/files/PixelLimit" "max" "J" (.long x1)) :
    MetFree l (⟨"com/example/sixteenfold/sixteenfold/files/PixelLimit", "max", "()J"⟩ : MethodName) (head1 (Jvm.Cond.code (⟨"com/example/sixteenfold/sixteenfold/files/PixelLimit", "max", "()J"⟩ : MethodName) prog_17_method_3_code 1 (some .long) :: ws) ({ frames := 0, cells := 0, slots := 0, locals := 0 } : Room)) (fun as_ U => as_ = #[(.ref a)] ∧ Z.Warmed39 U.vm ∧ U.heap = h0) (fun _ _ _ _ _ => True) (fun _ U o U' => ∃ v L, o = .returned v ∧ (Q_rmM Z a x1 h0 n0) v U'.heap L ∧ FrameEnd U o U' L ({ frames := 0, cells := 0, slots := 0, locals := 0 } : Room).cells ({ frames := 0, cells := 0, slots := 0, locals := 0 } : Room).slots) := by
  refine MetFree.of_bodySF (plainFor_of_name pn_0) hisR ?_
  intro p e s m args below meth c s₁ Bd hml0 hP hK
  obtain ⟨rfl, hZ, hh⟩ := hP
  have hx := Bd.exec
  have hby := Bd.bytes
  have hml : c.maxLocals = 1 := hml0
  have hown : s.vm.findClass "com/example/sixteenfold/sixteenfold/files/PixelLimit" = some m.cls := findClass_of_methodNamed Bd.named
  have hnm := (name_of_methodNamed Bd.named Bd.method).1
  have X0 : Stand p l e ({ frames := 0, cells := 0, slots := 0, locals := 0 } : Room) s m #[(.ref a)] below meth c s₁ [] 0 0 := Stand.of_body Bd
  have e0 : s₁.heap = h0 := by rw [← hh, Bd.state]; rfl
  have N0 := Fr.nil n0
  show own_G p e below s (Q_rmM Z a x1 h0 n0) ({ frames := 0, cells := 0, slots := 0, locals := 0 } : Room).cells ({ frames := 0, cells := 0, slots := 0, locals := 0 } : Room).slots (s₁.setTop (entryFrame m #[(.ref a)] 1))
  rw [ef_rmM m a]
  show own_G p e below s _ _ _ (s₁.setTop (mkF m 0 #[.val (.ref a)] []))
  refine own_go (fun _ k => XS.aloadN X0.here hx rfl (hb hby d4_0) rfl rfl k) ?_
  show own_G p e below s _ _ _ (s₁.setTop (mkF m 1 #[.val (.ref a)] [(.ref a)]))
  obtain ⟨T1, X1, e1, st1⟩ := getF X0 hx hZ hown (host := "") (Or.inl (hw _ (List.mem_of_getElem? (i := 14) rfl))) Via.refl e0 F_max (g := (mkF m 1 #[.val (.ref a)] [(.ref a)])) rfl rfl (hb hby d4_1)
  refine own_go st1 ?_
  show own_G p e below s _ _ _ (T1.setTop (mkF m 4 #[.val (.ref a)] [(.long x1)]))
  exact own_retJ X1 hx Bd.returns (BodyLoose.notSynchronized Bd) (hb hby d4_4) e1 ⟨rfl, N0, rfl⟩ (by decide) (by decide)
theorem d5_0 : decode prog_17_method_4_code 0 = .ok (.lload_n 1, 1) := by decide +kernel
theorem d5_1 : decode prog_17_method_4_code 1 = .ok (.aload_n 0, 1) := by decide +kernel
theorem d5_2 : decode prog_17_method_4_code 2 = .ok (.getfield 9, 3) := by decide +kernel
theorem d5_5 : decode prog_17_method_4_code 5 = .ok (.lcmp, 1) := by decide +kernel
theorem d5_6 : decode prog_17_method_4_code 6 = .ok (.ifCond .gt 27, 3) := by decide +kernel
theorem d5_33 : decode prog_17_method_4_code 33 = .ok (.iconst 0, 1) := by decide +kernel
theorem d5_34 : decode prog_17_method_4_code 34 = .ok (.ireturn, 1) := by decide +kernel
theorem ef_rmA0 (m : MethodId) (x0 : Addr) (x1 : Int64) (x2 : Int64) : entryFrame m #[(.ref x0), (.long x1), (.long x2)] 5 = mkF m 0 #[.val (.ref x0), .val (.long x1), .second, .val (.long x2), .second] [] := by first | (simp [entryFrame, mkF, argsToLocals, Value.category]; done) | rfl
def Q_rmA0 (Z : State) (a : Addr) (x1 x2 mx : Int64) (h0 : Heap) (n0 : Nat) : Option Value → Heap → List Loc → Prop := fun v h L => v = some (.int 0) ∧ Fr n0 L ∧ h = h0
set_option maxRecDepth 65536 in
set_option maxHeartbeats 40000000 in
theorem rmA0 (l : Launch) (Z : State) (a0 : Array Value) (hw : ∀ d ∈ tables_1, d.before a0 Z = true) (ws : List Jvm.Cond) (a : Addr) (x1 x2 mx : Int64) (h0 : Heap) (n0 : Nat) (Z0 : n0 ≤ h0.size) (F_max : Fld Z h0 a "com/example/sixteenfold/sixteenfold/files/PixelLimit" "max" "J" (.long mx)) (h1 : mx < x1) :
    MetFree l (⟨"com/example/sixteenfold/sixteenfold/files/PixelLimit", "allows", "(JJ)Z"⟩ : MethodName) (head1 (Jvm.Cond.code (⟨"com/example/sixteenfold/sixteenfold/files/PixelLimit", "allows", "(JJ)Z"⟩ : MethodName) prog_17_method_4_code 5 (some .boolean) :: ws) ({ frames := 0, cells := 0, slots := 0, locals := 0 } : Room)) (fun as_ U => as_ = #[(.ref a), (.long x1), (.long x2)] ∧ Z.Warmed39 U.vm ∧ U.heap = h0) (fun _ _ _ _ _ => True) (fun _ U o U' => ∃ v L, o = .returned v ∧ (Q_rmA0 Z a x1 x2 mx h0 n0) v U'.heap L ∧ FrameEnd U o U' L ({ frames := 0, cells := 0, slots := 0, locals := 0 } : Room).cells ({ frames := 0, cells := 0, slots := 0, locals := 0 } : Room).slots) := by
  refine MetFree.of_bodySF (plainFor_of_name pn_0) hisR ?_
  intro p e s m args below meth c s₁ Bd hml0 hP hK
  obtain ⟨rfl, hZ, hh⟩ := hP
  have hx := Bd.exec
  have hby := Bd.bytes
  have hml : c.maxLocals = 5 := hml0
  have hown : s.vm.findClass "com/example/sixteenfold/sixteenfold/files/PixelLimit" = some m.cls := findClass_of_methodNamed Bd.named
  have hnm := (name_of_methodNamed Bd.named Bd.method).1
  have X0 : Stand p l e ({ frames := 0, cells := 0, slots := 0, locals := 0 } : Room) s m #[(.ref a), (.long x1), (.long x2)] below meth c s₁ [] 0 0 := Stand.of_body Bd
  have e0 : s₁.heap = h0 := by rw [← hh, Bd.state]; rfl
  have N0 := Fr.nil n0
  show own_G p e below s (Q_rmA0 Z a x1 x2 mx h0 n0) ({ frames := 0, cells := 0, slots := 0, locals := 0 } : Room).cells ({ frames := 0, cells := 0, slots := 0, locals := 0 } : Room).slots (s₁.setTop (entryFrame m #[(.ref a), (.long x1), (.long x2)] 5))
  rw [ef_rmA0 m a x1 x2]
  show own_G p e below s _ _ _ (s₁.setTop (mkF m 0 #[.val (.ref a), .val (.long x1), .second, .val (.long x2), .second] []))
  refine own_go (fun _ k => XS.lloadN X0.here hx rfl (hb hby d5_0) rfl k) ?_
  show own_G p e below s _ _ _ (s₁.setTop (mkF m 1 #[.val (.ref a), .val (.long x1), .second, .val (.long x2), .second] [(.long x1)]))
  refine own_go (fun _ k => XS.aloadN X0.here hx rfl (hb hby d5_1) rfl rfl k) ?_
  show own_G p e below s _ _ _ (s₁.setTop (mkF m 2 #[.val (.ref a), .val (.long x1), .second, .val (.long x2), .second] [(.ref a), (.long x1)]))
  obtain ⟨T1, X1, e1, st1⟩ := getF X0 hx hZ hown (host := "") (Or.inl (hw _ (List.mem_of_getElem? (i := 14) rfl))) Via.refl e0 F_max (g := (mkF m 2 #[.val (.ref a), .val (.long x1), .second, .val (.long x2), .second] [(.ref a), (.long x1)])) rfl rfl (hb hby d5_2)
  refine own_go st1 ?_
  show own_G p e below s _ _ _ (T1.setTop (mkF m 5 #[.val (.ref a), .val (.long x1), .second, .val (.long x2), .second] [(.long mx), (.long x1)]))
  refine own_go (fun _ k => XS.lcmp X1.here hx rfl (hb hby d5_5) rfl k) ?_
  show own_G p e below s _ _ _ (T1.setTop (mkF m 6 #[.val (.ref a), .val (.long x1), .second, .val (.long x2), .second] [(.int (lcmpW x1 mx))]))
  refine own_if_gtY X1 hx (pc := 6) (pc' := 33) (hb hby d5_6) (by decide) (by decide) ((lw_gt _ _).mpr h1) ?_
  show own_G p e below s _ _ _ (T1.setTop (mkF m 33 #[.val (.ref a), .val (.long x1), .second, .val (.long x2), .second] []))
  refine own_go (fun _ k => XS.iconst X1.here hx rfl (hb hby d5_33) k) ?_
  show own_G p e below s _ _ _ (T1.setTop (mkF m 34 #[.val (.ref a), .val (.long x1), .second, .val (.long x2), .second] [(.int (0 : Int32))]))
  exact own_retN (t := .boolean) (ht := by simp) X1 hx Bd.returns (BodyLoose.notSynchronized Bd) (hb hby d5_34) e1 ⟨rfl, N0, rfl⟩ (by decide) (by decide)
theorem d5_9 : decode prog_17_method_4_code 9 = .ok (.lload_n 3, 1) := by decide +kernel
theorem d5_10 : decode prog_17_method_4_code 10 = .ok (.aload_n 0, 1) := by decide +kernel
theorem d5_11 : decode prog_17_method_4_code 11 = .ok (.getfield 9, 3) := by decide +kernel
theorem d5_14 : decode prog_17_method_4_code 14 = .ok (.lcmp, 1) := by decide +kernel
theorem d5_15 : decode prog_17_method_4_code 15 = .ok (.ifCond .gt 18, 3) := by decide +kernel
theorem d5_18 : decode prog_17_method_4_code 18 = .ok (.lload_n 1, 1) := by decide +kernel
theorem d5_19 : decode prog_17_method_4_code 19 = .ok (.lload_n 3, 1) := by decide +kernel
theorem d5_20 : decode prog_17_method_4_code 20 = .ok (.lmul, 1) := by decide +kernel
theorem d5_21 : decode prog_17_method_4_code 21 = .ok (.aload_n 0, 1) := by decide +kernel
theorem d5_22 : decode prog_17_method_4_code 22 = .ok (.getfield 9, 3) := by decide +kernel
theorem d5_25 : decode prog_17_method_4_code 25 = .ok (.lcmp, 1) := by decide +kernel
theorem d5_26 : decode prog_17_method_4_code 26 = .ok (.ifCond .gt 7, 3) := by decide +kernel
theorem d5_29 : decode prog_17_method_4_code 29 = .ok (.iconst 1, 1) := by decide +kernel
theorem d5_30 : decode prog_17_method_4_code 30 = .ok (.goto 4, 3) := by decide +kernel
theorem ef_rmA1 (m : MethodId) (x0 : Addr) (x1 : Int64) (x2 : Int64) : entryFrame m #[(.ref x0), (.long x1), (.long x2)] 5 = mkF m 0 #[.val (.ref x0), .val (.long x1), .second, .val (.long x2), .second] [] := by first | (simp [entryFrame, mkF, argsToLocals, Value.category]; done) | rfl
def Q_rmA1 (Z : State) (a : Addr) (x1 x2 mx : Int64) (h0 : Heap) (n0 : Nat) : Option Value → Heap → List Loc → Prop := fun v h L => v = some (.int 1) ∧ Fr n0 L ∧ h = h0
set_option maxRecDepth 65536 in
set_option maxHeartbeats 40000000 in
theorem rmA1 (l : Launch) (Z : State) (a0 : Array Value) (hw : ∀ d ∈ tables_1, d.before a0 Z = true) (ws : List Jvm.Cond) (a : Addr) (x1 x2 mx : Int64) (h0 : Heap) (n0 : Nat) (Z0 : n0 ≤ h0.size) (F_max : Fld Z h0 a "com/example/sixteenfold/sixteenfold/files/PixelLimit" "max" "J" (.long mx)) (h1 : ¬ mx < x1) (h2 : ¬ mx < x2) (h3 : ¬ mx < x1 * x2) :
    MetFree l (⟨"com/example/sixteenfold/sixteenfold/files/PixelLimit", "allows", "(JJ)Z"⟩ : MethodName) (head1 (Jvm.Cond.code (⟨"com/example/sixteenfold/sixteenfold/files/PixelLimit", "allows", "(JJ)Z"⟩ : MethodName) prog_17_method_4_code 5 (some .boolean) :: ws) ({ frames := 0, cells := 0, slots := 0, locals := 0 } : Room)) (fun as_ U => as_ = #[(.ref a), (.long x1), (.long x2)] ∧ Z.Warmed39 U.vm ∧ U.heap = h0) (fun _ _ _ _ _ => True) (fun _ U o U' => ∃ v L, o = .returned v ∧ (Q_rmA1 Z a x1 x2 mx h0 n0) v U'.heap L ∧ FrameEnd U o U' L ({ frames := 0, cells := 0, slots := 0, locals := 0 } : Room).cells ({ frames := 0, cells := 0, slots := 0, locals := 0 } : Room).slots) := by
  refine MetFree.of_bodySF (plainFor_of_name pn_0) hisR ?_
  intro p e s m args below meth c s₁ Bd hml0 hP hK
  obtain ⟨rfl, hZ, hh⟩ := hP
  have hx := Bd.exec
  have hby := Bd.bytes
  have hml : c.maxLocals = 5 := hml0
  have hown : s.vm.findClass "com/example/sixteenfold/sixteenfold/files/PixelLimit" = some m.cls := findClass_of_methodNamed Bd.named
  have hnm := (name_of_methodNamed Bd.named Bd.method).1
  have X0 : Stand p l e ({ frames := 0, cells := 0, slots := 0, locals := 0 } : Room) s m #[(.ref a), (.long x1), (.long x2)] below meth c s₁ [] 0 0 := Stand.of_body Bd
  have e0 : s₁.heap = h0 := by rw [← hh, Bd.state]; rfl
  have N0 := Fr.nil n0
  show own_G p e below s (Q_rmA1 Z a x1 x2 mx h0 n0) ({ frames := 0, cells := 0, slots := 0, locals := 0 } : Room).cells ({ frames := 0, cells := 0, slots := 0, locals := 0 } : Room).slots (s₁.setTop (entryFrame m #[(.ref a), (.long x1), (.long x2)] 5))
  rw [ef_rmA1 m a x1 x2]
  show own_G p e below s _ _ _ (s₁.setTop (mkF m 0 #[.val (.ref a), .val (.long x1), .second, .val (.long x2), .second] []))
  refine own_go (fun _ k => XS.lloadN X0.here hx rfl (hb hby d5_0) rfl k) ?_
  show own_G p e below s _ _ _ (s₁.setTop (mkF m 1 #[.val (.ref a), .val (.long x1), .second, .val (.long x2), .second] [(.long x1)]))
  refine own_go (fun _ k => XS.aloadN X0.here hx rfl (hb hby d5_1) rfl rfl k) ?_
  show own_G p e below s _ _ _ (s₁.setTop (mkF m 2 #[.val (.ref a), .val (.long x1), .second, .val (.long x2), .second] [(.ref a), (.long x1)]))
  obtain ⟨T1, X1, e1, st1⟩ := getF X0 hx hZ hown (host := "") (Or.inl (hw _ (List.mem_of_getElem? (i := 14) rfl))) Via.refl e0 F_max (g := (mkF m 2 #[.val (.ref a), .val (.long x1), .second, .val (.long x2), .second] [(.ref a), (.long x1)])) rfl rfl (hb hby d5_2)
  refine own_go st1 ?_
  show own_G p e below s _ _ _ (T1.setTop (mkF m 5 #[.val (.ref a), .val (.long x1), .second, .val (.long x2), .second] [(.long mx), (.long x1)]))
  refine own_go (fun _ k => XS.lcmp X1.here hx rfl (hb hby d5_5) rfl k) ?_
  show own_G p e below s _ _ _ (T1.setTop (mkF m 6 #[.val (.ref a), .val (.long x1), .second, .val (.long x2), .second] [(.int (lcmpW x1 mx))]))
  refine own_if_gtN X1 hx (pc := 6) (hb hby d5_6) (fun q => h1 ((lw_gt _ _).mp q)) ?_
  show own_G p e below s _ _ _ (T1.setTop (mkF m 9 #[.val (.ref a), .val (.long x1), .second, .val (.long x2), .second] []))
  refine own_go (fun _ k => XS.lloadN X1.here hx rfl (hb hby d5_9) rfl k) ?_
  show own_G p e below s _ _ _ (T1.setTop (mkF m 10 #[.val (.ref a), .val (.long x1), .second, .val (.long x2), .second] [(.long x2)]))
  refine own_go (fun _ k => XS.aloadN X1.here hx rfl (hb hby d5_10) rfl rfl k) ?_
  show own_G p e below s _ _ _ (T1.setTop (mkF m 11 #[.val (.ref a), .val (.long x1), .second, .val (.long x2), .second] [(.ref a), (.long x2)]))
  obtain ⟨T2, X2, e2, st2⟩ := getF X1 hx hZ hown (host := "") (Or.inl (hw _ (List.mem_of_getElem? (i := 14) rfl))) Via.refl e1 F_max (g := (mkF m 11 #[.val (.ref a), .val (.long x1), .second, .val (.long x2), .second] [(.ref a), (.long x2)])) rfl rfl (hb hby d5_11)
  refine own_go st2 ?_
  show own_G p e below s _ _ _ (T2.setTop (mkF m 14 #[.val (.ref a), .val (.long x1), .second, .val (.long x2), .second] [(.long mx), (.long x2)]))
  refine own_go (fun _ k => XS.lcmp X2.here hx rfl (hb hby d5_14) rfl k) ?_
  show own_G p e below s _ _ _ (T2.setTop (mkF m 15 #[.val (.ref a), .val (.long x1), .second, .val (.long x2), .second] [(.int (lcmpW x2 mx))]))
  refine own_if_gtN X2 hx (pc := 15) (hb hby d5_15) (fun q => h2 ((lw_gt _ _).mp q)) ?_
  show own_G p e below s _ _ _ (T2.setTop (mkF m 18 #[.val (.ref a), .val (.long x1), .second, .val (.long x2), .second] []))
  refine own_go (fun _ k => XS.lloadN X2.here hx rfl (hb hby d5_18) rfl k) ?_
  show own_G p e below s _ _ _ (T2.setTop (mkF m 19 #[.val (.ref a), .val (.long x1), .second, .val (.long x2), .second] [(.long x1)]))
  refine own_go (fun _ k => XS.lloadN X2.here hx rfl (hb hby d5_19) rfl k) ?_
  show own_G p e below s _ _ _ (T2.setTop (mkF m 20 #[.val (.ref a), .val (.long x1), .second, .val (.long x2), .second] [(.long x2), (.long x1)]))
  refine own_go (fun _ k => XS.lmul X2.here hx rfl (hb hby d5_20) rfl k) ?_
  show own_G p e below s _ _ _ (T2.setTop (mkF m 21 #[.val (.ref a), .val (.long x1), .second, .val (.long x2), .second] [(.long (x1 * x2))]))
  refine own_go (fun _ k => XS.aloadN X2.here hx rfl (hb hby d5_21) rfl rfl k) ?_
  show own_G p e below s _ _ _ (T2.setTop (mkF m 22 #[.val (.ref a), .val (.long x1), .second, .val (.long x2), .second] [(.ref a), (.long (x1 * x2))]))
  obtain ⟨T3, X3, e3, st3⟩ := getF X2 hx hZ hown (host := "") (Or.inl (hw _ (List.mem_of_getElem? (i := 14) rfl))) Via.refl e2 F_max (g := (mkF m 22 #[.val (.ref a), .val (.long x1), .second, .val (.long x2), .second] [(.ref a), (.long (x1 * x2))])) rfl rfl (hb hby d5_22)
  refine own_go st3 ?_
  show own_G p e below s _ _ _ (T3.setTop (mkF m 25 #[.val (.ref a), .val (.long x1), .second, .val (.long x2), .second] [(.long mx), (.long (x1 * x2))]))
  refine own_go (fun _ k => XS.lcmp X3.here hx rfl (hb hby d5_25) rfl k) ?_
  show own_G p e below s _ _ _ (T3.setTop (mkF m 26 #[.val (.ref a), .val (.long x1), .second, .val (.long x2), .second] [(.int (lcmpW (x1 * x2) mx))]))
  refine own_if_gtN X3 hx (pc := 26) (hb hby d5_26) (fun q => h3 ((lw_gt _ _).mp q)) ?_
  show own_G p e below s _ _ _ (T3.setTop (mkF m 29 #[.val (.ref a), .val (.long x1), .second, .val (.long x2), .second] []))
  refine own_go (fun _ k => XS.iconst X3.here hx rfl (hb hby d5_29) k) ?_
  show own_G p e below s _ _ _ (T3.setTop (mkF m 30 #[.val (.ref a), .val (.long x1), .second, .val (.long x2), .second] [(.int (1 : Int32))]))
  refine own_go (fun _ k => XS.goto X3.here hx rfl (pc0 := 30) (pc' := 34) rfl (hb hby d5_30) (by decide) (by decide) k) ?_
  show own_G p e below s _ _ _ (T3.setTop (mkF m 34 #[.val (.ref a), .val (.long x1), .second, .val (.long x2), .second] [(.int (1 : Int32))]))
  exact own_retN (t := .boolean) (ht := by simp) X3 hx Bd.returns (BodyLoose.notSynchronized Bd) (hb hby d5_34) e3 ⟨rfl, N0, rfl⟩ (by decide) (by decide)
theorem own_big : ((2147483639 : Int64)).toInt = 2147483639 := by decide
theorem own_one : ((1 : Int64)).toInt = 1 := by decide
theorem own_m3 (x : Int64) : ¬ ((2147483639 : Int64) - (x &&& (7 : Int64))) < 1 ∧ ¬ (2147483639 : Int64) < ((2147483639 : Int64) - (x &&& (7 : Int64))) := by
  have e1 := c_maskL x 7 3 (by decide) (by decide)
  have e2 := c_lsub 2147483639 (x &&& 7)
  have e3 := rng64 (2147483639 - (x &&& 7))
  rw [Int64.lt_iff_toInt_lt, Int64.lt_iff_toInt_lt]
  rw [own_big] at e2 ⊢
  rw [own_one]
  generalize ((2147483639 : Int64) - (x &&& 7)).toInt = u at *
  generalize (x &&& 7).toInt = v at *
  generalize x.toInt = y at *
  have : v = y % 8 := e1
  omega
theorem own_m0 (x : Int64) : ¬ ((1 : Int64) + ((x &&& (2147483647 : Int64)) % (2147483639 : Int64))) < 1 ∧ ¬ (2147483639 : Int64) < ((1 : Int64) + ((x &&& (2147483647 : Int64)) % (2147483639 : Int64))) := by
  have e1 := c_maskL x 2147483647 31 (by decide) (by decide)
  have e0 : ((x &&& 2147483647) % (2147483639 : Int64)).toInt = (x &&& 2147483647).toInt.tmod 2147483639 := by rw [Int64.toInt_mod, own_big]
  have e4 := (tr (x &&& 2147483647).toInt 2147483639).1
  rw [← e0] at e4
  have e2 := c_ladd 1 ((x &&& 2147483647) % (2147483639 : Int64))
  have e3 := rng64 (1 + ((x &&& 2147483647) % (2147483639 : Int64)))
  rw [Int64.lt_iff_toInt_lt, Int64.lt_iff_toInt_lt]
  rw [own_big, own_one]
  rw [own_one] at e2
  generalize ((1 : Int64) + ((x &&& 2147483647) % (2147483639 : Int64))).toInt = u at *
  generalize ((x &&& 2147483647) % (2147483639 : Int64)).toInt = t at *
  generalize (x &&& 2147483647).toInt = v at *
  generalize x.toInt = y at *
  have : v = y % 2147483648 := e1
  have h5 : t = v % 2147483639 := e4 (by omega)
  omega
theorem own_up {M : Int64} (h : ¬ (2147483639 : Int64) < M) (h1 : ¬ M < 1) : M < M + 1 := by
  rw [Int64.lt_iff_toInt_lt] at h h1 ⊢
  have e2 := c_ladd M 1
  have e3 := rng64 (M + 1)
  rw [own_big] at h
  rw [own_one] at e2 h1
  generalize (M + 1).toInt = u at *
  generalize M.toInt = v at *
  omega
theorem own_irr (M : Int64) : ¬ M < M := by rw [Int64.lt_iff_toInt_lt]; omega
theorem own_mul1 (M : Int64) : ¬ M < M * 1 := by rw [Int64.mul_one]; exact own_irr M
theorem pn_1 : plainName "com/example/sixteenfold/sixteenfold/files/PixelLimitOfPinLaw" = true := by first | (simp [plainName, overriddenIn]; done) | decide +kernel
theorem pd_2 : parseMethodDescriptor "()J" = some ⟨[], some .long⟩ := by decide +kernel
theorem pd_1 : parseMethodDescriptor "(J)Lcom/example/sixteenfold/sixteenfold/files/PixelLimit;" = some ⟨[.long], some (.object "com/example/sixteenfold/sixteenfold/files/PixelLimit")⟩ := by decide +kernel
theorem pd_3 : parseMethodDescriptor "(JJ)Z" = some ⟨[.long, .long], some .boolean⟩ := by decide +kernel
theorem ef_rm0 (m : MethodId) (x0 : Int64) (x1 : Int32) : entryFrame m #[(.long x0), (.int x1)] maxLocals = mkF m 0 #[.val (.long x0), .second, .val (.int x1), .unset, .unset, .unset, .unset, .unset, .unset] [] := by first | (simp [entryFrame, mkF, argsToLocals, Value.category, maxLocals]; done) | rfl
def Q_rm0 (Z : State) (x0 : Int64) (x1 : Int32) (h0 : Heap) (n0 : Nat) : Option Value → Heap → List Loc → Prop := fun v h L => v = some (.int 1) ∧ Fr n0 L
set_option maxRecDepth 65536 in
set_option maxHeartbeats 40000000 in
theorem rm0 (l : Launch) (Z : State) (a0 : Array Value) (hw : ∀ d ∈ tables_1, d.before a0 Z = true) (ws : List Jvm.Cond) (x0 : Int64) (x1 : Int32) (h0 : Heap) (n0 : Nat) (Z0 : n0 ≤ h0.size)  :
    MetFree l x (head1 (Jvm.Cond.code x code maxLocals ret :: ws) room_1) (fun as_ U => as_ = #[(.long x0), (.int x1)] ∧ Z.Warmed39 U.vm ∧ U.heap = h0) (fun _ _ _ _ _ => True) (fun _ U o U' => ∃ v L, o = .returned v ∧ (Q_rm0 Z x0 x1 h0 n0) v U'.heap L ∧ FrameEnd U o U' L 16 128) := by
  refine MetFree.of_bodySF (plainFor_of_name pn_1) hisR ?_
  intro p e s m args below meth c s₁ Bd hml0 hP hK
  obtain ⟨rfl, hZ, hh⟩ := hP
  have hx := Bd.exec
  have hby := Bd.bytes
  have hml : c.maxLocals = 9 := hml0
  have hown : s.vm.findClass "com/example/sixteenfold/sixteenfold/files/PixelLimitOfPinLaw" = some m.cls := findClass_of_methodNamed Bd.named
  have hnm := (name_of_methodNamed Bd.named Bd.method).1
  have X0 : Stand p l e room_1 s m #[(.long x0), (.int x1)] below meth c s₁ [] 0 0 := Stand.of_body Bd
  have e0 : s₁.heap = h0 := by rw [← hh, Bd.state]; rfl
  have N0 := Fr.nil n0
  show own_G p e below s (Q_rm0 Z x0 x1 h0 n0) 16 128 (s₁.setTop (entryFrame m #[(.long x0), (.int x1)] maxLocals))
  rw [ef_rm0 m x0 x1]
  suffices J : ∀ (M : Int64), ¬ M < 1 → ¬ 2147483639 < M → own_G p e below s (Q_rm0 Z x0 x1 h0 n0) 16 128 (s₁.setTop (mkF m 62 #[.val (.long x0), .second, .val (.int x1), .val (.long (2147483639 : Int64)), .second, .val (.long M), .second, .val (.int (x1 &&& (3 : Int32))), .unset] [])) by
    show own_G p e below s _ _ _ (s₁.setTop (mkF m 0 #[.val (.long x0), .second, .val (.int x1), .unset, .unset, .unset, .unset, .unset, .unset] []))
    refine own_go (fun _ k => X0.ldc2Long hx hown (mvT hZ (hw _ (List.mem_of_getElem? (i := 0) rfl))) (g := (mkF m 0 #[.val (.long x0), .second, .val (.int x1), .unset, .unset, .unset, .unset, .unset, .unset] [])) rfl (hb hby at_0) _ k) ?_
    show own_G p e below s _ _ _ (s₁.setTop (mkF m 3 #[.val (.long x0), .second, .val (.int x1), .unset, .unset, .unset, .unset, .unset, .unset] [(.long (2147483639 : Int64))]))
    refine own_go (fun _ k => XS.lstoreN X0.here hx rfl (hb hby at_3) rfl (l' := #[.val (.long x0), .second, .val (.int x1), .val (.long (2147483639 : Int64)), .second, .unset, .unset, .unset, .unset]) rfl k) ?_
    show own_G p e below s _ _ _ (s₁.setTop (mkF m 4 #[.val (.long x0), .second, .val (.int x1), .val (.long (2147483639 : Int64)), .second, .unset, .unset, .unset, .unset] []))
    refine own_go (fun _ k => XS.iloadN X0.here hx rfl (hb hby at_4) rfl k) ?_
    show own_G p e below s _ _ _ (s₁.setTop (mkF m 5 #[.val (.long x0), .second, .val (.int x1), .val (.long (2147483639 : Int64)), .second, .unset, .unset, .unset, .unset] [(.int x1)]))
    refine own_go (fun _ k => XS.iconst X0.here hx rfl (hb hby at_5) k) ?_
    show own_G p e below s _ _ _ (s₁.setTop (mkF m 6 #[.val (.long x0), .second, .val (.int x1), .val (.long (2147483639 : Int64)), .second, .unset, .unset, .unset, .unset] [(.int (3 : Int32)), (.int x1)]))
    refine own_go (fun _ k => XS.iand X0.here hx rfl (hb hby at_6) rfl k) ?_
    show own_G p e below s _ _ _ (s₁.setTop (mkF m 7 #[.val (.long x0), .second, .val (.int x1), .val (.long (2147483639 : Int64)), .second, .unset, .unset, .unset, .unset] [(.int (x1 &&& (3 : Int32)))]))
    refine own_go (fun _ k => XS.istore X0.here hx rfl (hb hby at_7) rfl (l' := #[.val (.long x0), .second, .val (.int x1), .val (.long (2147483639 : Int64)), .second, .unset, .unset, .val (.int (x1 &&& (3 : Int32))), .unset]) rfl k) ?_
    show own_G p e below s _ _ _ (s₁.setTop (mkF m 9 #[.val (.long x0), .second, .val (.int x1), .val (.long (2147483639 : Int64)), .second, .unset, .unset, .val (.int (x1 &&& (3 : Int32))), .unset] []))
    refine own_go (fun _ k => XS.iload X0.here hx rfl (hb hby at_9) rfl k) ?_
    show own_G p e below s _ _ _ (s₁.setTop (mkF m 11 #[.val (.long x0), .second, .val (.int x1), .val (.long (2147483639 : Int64)), .second, .unset, .unset, .val (.int (x1 &&& (3 : Int32))), .unset] [(.int (x1 &&& (3 : Int32)))]))
    refine own_go (fun _ k => XS.iconst X0.here hx rfl (hb hby at_11) k) ?_
    show own_G p e below s _ _ _ (s₁.setTop (mkF m 12 #[.val (.long x0), .second, .val (.int x1), .val (.long (2147483639 : Int64)), .second, .unset, .unset, .val (.int (x1 &&& (3 : Int32))), .unset] [(.int (1 : Int32)), (.int (x1 &&& (3 : Int32)))]))
    refine own_ic_ne X0 hx (pc := 12) (pc' := 21) (hb hby at_12) (by decide) (by decide) (fun hc12 => ?_) (fun hc12 => ?_)
    · show own_G p e below s _ _ _ (s₁.setTop (mkF m 21 #[.val (.long x0), .second, .val (.int x1), .val (.long (2147483639 : Int64)), .second, .unset, .unset, .val (.int (x1 &&& (3 : Int32))), .unset] []))
      refine own_go (fun _ k => XS.iload X0.here hx rfl (hb hby at_21) rfl k) ?_
      show own_G p e below s _ _ _ (s₁.setTop (mkF m 23 #[.val (.long x0), .second, .val (.int x1), .val (.long (2147483639 : Int64)), .second, .unset, .unset, .val (.int (x1 &&& (3 : Int32))), .unset] [(.int (x1 &&& (3 : Int32)))]))
      refine own_go (fun _ k => XS.iconst X0.here hx rfl (hb hby at_23) k) ?_
      show own_G p e below s _ _ _ (s₁.setTop (mkF m 24 #[.val (.long x0), .second, .val (.int x1), .val (.long (2147483639 : Int64)), .second, .unset, .unset, .val (.int (x1 &&& (3 : Int32))), .unset] [(.int (2 : Int32)), (.int (x1 &&& (3 : Int32)))]))
      refine own_ic_ne X0 hx (pc := 24) (pc' := 33) (hb hby at_24) (by decide) (by decide) (fun hc24 => ?_) (fun hc24 => ?_)
      · show own_G p e below s _ _ _ (s₁.setTop (mkF m 33 #[.val (.long x0), .second, .val (.int x1), .val (.long (2147483639 : Int64)), .second, .unset, .unset, .val (.int (x1 &&& (3 : Int32))), .unset] []))
        refine own_go (fun _ k => XS.iload X0.here hx rfl (hb hby at_33) rfl k) ?_
        show own_G p e below s _ _ _ (s₁.setTop (mkF m 35 #[.val (.long x0), .second, .val (.int x1), .val (.long (2147483639 : Int64)), .second, .unset, .unset, .val (.int (x1 &&& (3 : Int32))), .unset] [(.int (x1 &&& (3 : Int32)))]))
        refine own_go (fun _ k => XS.iconst X0.here hx rfl (hb hby at_35) k) ?_
        show own_G p e below s _ _ _ (s₁.setTop (mkF m 36 #[.val (.long x0), .second, .val (.int x1), .val (.long (2147483639 : Int64)), .second, .unset, .unset, .val (.int (x1 &&& (3 : Int32))), .unset] [(.int (3 : Int32)), (.int (x1 &&& (3 : Int32)))]))
        refine own_ic_ne X0 hx (pc := 36) (pc' := 51) (hb hby at_36) (by decide) (by decide) (fun hc36 => ?_) (fun hc36 => ?_)
        · show own_G p e below s _ _ _ (s₁.setTop (mkF m 51 #[.val (.long x0), .second, .val (.int x1), .val (.long (2147483639 : Int64)), .second, .unset, .unset, .val (.int (x1 &&& (3 : Int32))), .unset] []))
          refine own_go (fun _ k => XS.lconst X0.here hx rfl (hb hby at_51) k) ?_
          show own_G p e below s _ _ _ (s₁.setTop (mkF m 52 #[.val (.long x0), .second, .val (.int x1), .val (.long (2147483639 : Int64)), .second, .unset, .unset, .val (.int (x1 &&& (3 : Int32))), .unset] [(.long (1 : Int64))]))
          refine own_go (fun _ k => XS.lloadN X0.here hx rfl (hb hby at_52) rfl k) ?_
          show own_G p e below s _ _ _ (s₁.setTop (mkF m 53 #[.val (.long x0), .second, .val (.int x1), .val (.long (2147483639 : Int64)), .second, .unset, .unset, .val (.int (x1 &&& (3 : Int32))), .unset] [(.long x0), (.long (1 : Int64))]))
          refine own_go (fun _ k => X0.ldc2Long hx hown (mvT hZ (hw _ (List.mem_of_getElem? (i := 26) rfl))) (g := (mkF m 53 #[.val (.long x0), .second, .val (.int x1), .val (.long (2147483639 : Int64)), .second, .unset, .unset, .val (.int (x1 &&& (3 : Int32))), .unset] [(.long x0), (.long (1 : Int64))])) rfl (hb hby at_53) _ k) ?_
          show own_G p e below s _ _ _ (s₁.setTop (mkF m 56 #[.val (.long x0), .second, .val (.int x1), .val (.long (2147483639 : Int64)), .second, .unset, .unset, .val (.int (x1 &&& (3 : Int32))), .unset] [(.long (2147483647 : Int64)), (.long x0), (.long (1 : Int64))]))
          refine own_go (fun _ k => XS.land X0.here hx rfl (hb hby at_56) rfl k) ?_
          show own_G p e below s _ _ _ (s₁.setTop (mkF m 57 #[.val (.long x0), .second, .val (.int x1), .val (.long (2147483639 : Int64)), .second, .unset, .unset, .val (.int (x1 &&& (3 : Int32))), .unset] [(.long (x0 &&& (2147483647 : Int64))), (.long (1 : Int64))]))
          refine own_go (fun _ k => XS.lloadN X0.here hx rfl (hb hby at_57) rfl k) ?_
          show own_G p e below s _ _ _ (s₁.setTop (mkF m 58 #[.val (.long x0), .second, .val (.int x1), .val (.long (2147483639 : Int64)), .second, .unset, .unset, .val (.int (x1 &&& (3 : Int32))), .unset] [(.long (2147483639 : Int64)), (.long (x0 &&& (2147483647 : Int64))), (.long (1 : Int64))]))
          refine own_go (fun _ k => own_lrem X0 hx rfl (hb hby at_58) rfl (by decide) k) ?_
          show own_G p e below s _ _ _ (s₁.setTop (mkF m 59 #[.val (.long x0), .second, .val (.int x1), .val (.long (2147483639 : Int64)), .second, .unset, .unset, .val (.int (x1 &&& (3 : Int32))), .unset] [(.long ((x0 &&& (2147483647 : Int64)) % (2147483639 : Int64))), (.long (1 : Int64))]))
          refine own_go (fun _ k => XS.ladd X0.here hx rfl (hb hby at_59) rfl k) ?_
          show own_G p e below s _ _ _ (s₁.setTop (mkF m 60 #[.val (.long x0), .second, .val (.int x1), .val (.long (2147483639 : Int64)), .second, .unset, .unset, .val (.int (x1 &&& (3 : Int32))), .unset] [(.long ((1 : Int64) + ((x0 &&& (2147483647 : Int64)) % (2147483639 : Int64))))]))
          refine own_go (fun _ k => XS.lstore X0.here hx rfl (hb hby at_60) rfl (l' := #[.val (.long x0), .second, .val (.int x1), .val (.long (2147483639 : Int64)), .second, .val (.long ((1 : Int64) + ((x0 &&& (2147483647 : Int64)) % (2147483639 : Int64)))), .second, .val (.int (x1 &&& (3 : Int32))), .unset]) rfl k) ?_
          exact J _ (own_m0 x0).1 (own_m0 x0).2
        · show own_G p e below s _ _ _ (s₁.setTop (mkF m 39 #[.val (.long x0), .second, .val (.int x1), .val (.long (2147483639 : Int64)), .second, .unset, .unset, .val (.int (x1 &&& (3 : Int32))), .unset] []))
          refine own_go (fun _ k => XS.lloadN X0.here hx rfl (hb hby at_39) rfl k) ?_
          show own_G p e below s _ _ _ (s₁.setTop (mkF m 40 #[.val (.long x0), .second, .val (.int x1), .val (.long (2147483639 : Int64)), .second, .unset, .unset, .val (.int (x1 &&& (3 : Int32))), .unset] [(.long (2147483639 : Int64))]))
          refine own_go (fun _ k => XS.lloadN X0.here hx rfl (hb hby at_40) rfl k) ?_
          show own_G p e below s _ _ _ (s₁.setTop (mkF m 41 #[.val (.long x0), .second, .val (.int x1), .val (.long (2147483639 : Int64)), .second, .unset, .unset, .val (.int (x1 &&& (3 : Int32))), .unset] [(.long x0), (.long (2147483639 : Int64))]))
          refine own_go (fun _ k => X0.ldc2Long hx hown (mvT hZ (hw _ (List.mem_of_getElem? (i := 27) rfl))) (g := (mkF m 41 #[.val (.long x0), .second, .val (.int x1), .val (.long (2147483639 : Int64)), .second, .unset, .unset, .val (.int (x1 &&& (3 : Int32))), .unset] [(.long x0), (.long (2147483639 : Int64))])) rfl (hb hby at_41) _ k) ?_
          show own_G p e below s _ _ _ (s₁.setTop (mkF m 44 #[.val (.long x0), .second, .val (.int x1), .val (.long (2147483639 : Int64)), .second, .unset, .unset, .val (.int (x1 &&& (3 : Int32))), .unset] [(.long (7 : Int64)), (.long x0), (.long (2147483639 : Int64))]))
          refine own_go (fun _ k => XS.land X0.here hx rfl (hb hby at_44) rfl k) ?_
          show own_G p e below s _ _ _ (s₁.setTop (mkF m 45 #[.val (.long x0), .second, .val (.int x1), .val (.long (2147483639 : Int64)), .second, .unset, .unset, .val (.int (x1 &&& (3 : Int32))), .unset] [(.long (x0 &&& (7 : Int64))), (.long (2147483639 : Int64))]))
          refine own_go (fun _ k => XS.lsub X0.here hx rfl (hb hby at_45) rfl k) ?_
          show own_G p e below s _ _ _ (s₁.setTop (mkF m 46 #[.val (.long x0), .second, .val (.int x1), .val (.long (2147483639 : Int64)), .second, .unset, .unset, .val (.int (x1 &&& (3 : Int32))), .unset] [(.long ((2147483639 : Int64) - (x0 &&& (7 : Int64))))]))
          refine own_go (fun _ k => XS.lstore X0.here hx rfl (hb hby at_46) rfl (l' := #[.val (.long x0), .second, .val (.int x1), .val (.long (2147483639 : Int64)), .second, .val (.long ((2147483639 : Int64) - (x0 &&& (7 : Int64)))), .second, .val (.int (x1 &&& (3 : Int32))), .unset]) rfl k) ?_
          show own_G p e below s _ _ _ (s₁.setTop (mkF m 48 #[.val (.long x0), .second, .val (.int x1), .val (.long (2147483639 : Int64)), .second, .val (.long ((2147483639 : Int64) - (x0 &&& (7 : Int64)))), .second, .val (.int (x1 &&& (3 : Int32))), .unset] []))
          refine own_go (fun _ k => XS.goto X0.here hx rfl (pc0 := 48) (pc' := 62) rfl (hb hby at_48) (by decide) (by decide) k) ?_
          exact J _ (own_m3 x0).1 (own_m3 x0).2
      · show own_G p e below s _ _ _ (s₁.setTop (mkF m 27 #[.val (.long x0), .second, .val (.int x1), .val (.long (2147483639 : Int64)), .second, .unset, .unset, .val (.int (x1 &&& (3 : Int32))), .unset] []))
        refine own_go (fun _ k => XS.lloadN X0.here hx rfl (hb hby at_27) rfl k) ?_
        show own_G p e below s _ _ _ (s₁.setTop (mkF m 28 #[.val (.long x0), .second, .val (.int x1), .val (.long (2147483639 : Int64)), .second, .unset, .unset, .val (.int (x1 &&& (3 : Int32))), .unset] [(.long (2147483639 : Int64))]))
        refine own_go (fun _ k => XS.lstore X0.here hx rfl (hb hby at_28) rfl (l' := #[.val (.long x0), .second, .val (.int x1), .val (.long (2147483639 : Int64)), .second, .val (.long (2147483639 : Int64)), .second, .val (.int (x1 &&& (3 : Int32))), .unset]) rfl k) ?_
        show own_G p e below s _ _ _ (s₁.setTop (mkF m 30 #[.val (.long x0), .second, .val (.int x1), .val (.long (2147483639 : Int64)), .second, .val (.long (2147483639 : Int64)), .second, .val (.int (x1 &&& (3 : Int32))), .unset] []))
        refine own_go (fun _ k => XS.goto X0.here hx rfl (pc0 := 30) (pc' := 62) rfl (hb hby at_30) (by decide) (by decide) k) ?_
        exact J _ (by decide) (by decide)
    · show own_G p e below s _ _ _ (s₁.setTop (mkF m 15 #[.val (.long x0), .second, .val (.int x1), .val (.long (2147483639 : Int64)), .second, .unset, .unset, .val (.int (x1 &&& (3 : Int32))), .unset] []))
      refine own_go (fun _ k => XS.lconst X0.here hx rfl (hb hby at_15) k) ?_
      show own_G p e below s _ _ _ (s₁.setTop (mkF m 16 #[.val (.long x0), .second, .val (.int x1), .val (.long (2147483639 : Int64)), .second, .unset, .unset, .val (.int (x1 &&& (3 : Int32))), .unset] [(.long (1 : Int64))]))
      refine own_go (fun _ k => XS.lstore X0.here hx rfl (hb hby at_16) rfl (l' := #[.val (.long x0), .second, .val (.int x1), .val (.long (2147483639 : Int64)), .second, .val (.long (1 : Int64)), .second, .val (.int (x1 &&& (3 : Int32))), .unset]) rfl k) ?_
      show own_G p e below s _ _ _ (s₁.setTop (mkF m 18 #[.val (.long x0), .second, .val (.int x1), .val (.long (2147483639 : Int64)), .second, .val (.long (1 : Int64)), .second, .val (.int (x1 &&& (3 : Int32))), .unset] []))
      refine own_go (fun _ k => XS.goto X0.here hx rfl (pc0 := 18) (pc' := 62) rfl (hb hby at_18) (by decide) (by decide) k) ?_
      exact J _ (by decide) (by decide)
  intro M hM1 hM2
  show own_G p e below s _ _ _ (s₁.setTop (mkF m 62 #[.val (.long x0), .second, .val (.int x1), .val (.long (2147483639 : Int64)), .second, .val (.long M), .second, .val (.int (x1 &&& (3 : Int32))), .unset] []))
  refine own_go (fun _ k => XS.lload X0.here hx rfl (hb hby at_62) rfl k) ?_
  show own_G p e below s _ _ _ (s₁.setTop (mkF m 64 #[.val (.long x0), .second, .val (.int x1), .val (.long (2147483639 : Int64)), .second, .val (.long M), .second, .val (.int (x1 &&& (3 : Int32))), .unset] [(.long M)]))
  obtain ⟨_, _, ⟨T1, L1, k1, n1⟩, -, X1, ⟨Lc1, hQ1, l1, y1, z1⟩, st1⟩ := Jvm.LawKit.callS X0 hx (y := (⟨"com/example/sixteenfold/sixteenfold/files/PixelLimit", "of", "(J)Lcom/example/sixteenfold/sixteenfold/files/PixelLimit;"⟩ : MethodName)) hown (mvT hZ (hw _ (List.mem_of_getElem? (i := 1) rfl))) (mvT hZ (hw _ (List.mem_of_getElem? (i := 2) rfl))) (mvT hZ (hw _ (List.mem_of_getElem? (i := 3) rfl))) (mvT hZ (hw _ (List.mem_of_getElem? (i := 4) rfl))) (by decide) (backOf (W := 0) (rmO l Z a0 hw [] M h0 n0 Z0 hM1 hM2) hZ (hw _ (List.mem_of_getElem? (i := 4) rfl)) (hw _ (List.mem_of_getElem? (i := 3) rfl)) (by decide) (by decide)) (g := (mkF m 64 #[.val (.long x0), .second, .val (.int x1), .val (.long (2147483639 : Int64)), .second, .val (.long M), .second, .val (.int (x1 &&& (3 : Int32))), .unset] [(.long M)])) rfl (by rw [hml]; rfl) (argsL := [(.long M)]) (rest := []) (lenOf pd_1 rfl) rfl (by show 2 * 0 + _ ≤ _; exact Nat.le_of_eq rfl) (hb hby at_64) (fun _ _ => ⟨rfl, e0, (by decide : 0 + 1 ≤ _), (by decide : 0 + 1 ≤ _)⟩)
  dsimp only [Pt.U, Pt.locs, Pt.cells, Pt.slots] at X1 l1 y1 z1 st1 hQ1
  subst l1 y1 z1
  generalize e1 : T1.heap = h1 at hQ1
  obtain ⟨b1, rfl, N1q, Z1, E1, F1⟩ := hQ1
  have N1 := Fr.app N0 N1q
  refine own_go st1 ?_
  show own_G p e below s _ _ _ (T1.setTop (mkF m 67 #[.val (.long x0), .second, .val (.int x1), .val (.long (2147483639 : Int64)), .second, .val (.long M), .second, .val (.int (x1 &&& (3 : Int32))), .unset] [(.ref b1)]))
  refine own_go (fun _ k => XS.astore X1.here hx rfl (hb hby at_67) rfl rfl (l' := #[.val (.long x0), .second, .val (.int x1), .val (.long (2147483639 : Int64)), .second, .val (.long M), .second, .val (.int (x1 &&& (3 : Int32))), .val (.ref b1)]) rfl k) ?_
  show own_G p e below s _ _ _ (T1.setTop (mkF m 69 #[.val (.long x0), .second, .val (.int x1), .val (.long (2147483639 : Int64)), .second, .val (.long M), .second, .val (.int (x1 &&& (3 : Int32))), .val (.ref b1)] []))
  refine own_go (fun _ k => XS.aload X1.here hx rfl (hb hby at_69) rfl rfl k) ?_
  show own_G p e below s _ _ _ (T1.setTop (mkF m 71 #[.val (.long x0), .second, .val (.int x1), .val (.long (2147483639 : Int64)), .second, .val (.long M), .second, .val (.int (x1 &&& (3 : Int32))), .val (.ref b1)] [(.ref b1)]))
  refine own_go (fun _ k => XT.ifnonnullYes X1.here hx rfl (pc0 := 71) (pc' := 76) rfl (hb hby at_71) rfl (by decide) (by decide) k) ?_
  show own_G p e below s _ _ _ (T1.setTop (mkF m 76 #[.val (.long x0), .second, .val (.int x1), .val (.long (2147483639 : Int64)), .second, .val (.long M), .second, .val (.int (x1 &&& (3 : Int32))), .val (.ref b1)] []))
  refine own_go (fun _ k => XS.aload X1.here hx rfl (hb hby at_76) rfl rfl k) ?_
  show own_G p e below s _ _ _ (T1.setTop (mkF m 78 #[.val (.long x0), .second, .val (.int x1), .val (.long (2147483639 : Int64)), .second, .val (.long M), .second, .val (.int (x1 &&& (3 : Int32))), .val (.ref b1)] [(.ref b1)]))
  obtain ⟨cq2, kq2, q2a, q2b, q2c⟩ := isOf hZ e1 E1
  obtain ⟨_, _, ⟨T2, L2, k2, n2⟩, -, X2, ⟨Lc2, hQ2, l2, y2, z2⟩, st2⟩ := X1.virtualBack hx (y := (⟨"com/example/sixteenfold/sixteenfold/files/PixelLimit", "max", "()J"⟩ : MethodName)) (z := (⟨"com/example/sixteenfold/sixteenfold/files/PixelLimit", "max", "()J"⟩ : MethodName)) hown (mvT hZ (hw _ (List.mem_of_getElem? (i := 16) rfl))) (mvT hZ (hw _ (List.mem_of_getElem? (i := 17) rfl))) (notFace_of_selects (args := #[]) (mvT hZ (hw _ (List.mem_of_getElem? (i := 19) rfl)))) (mvT hZ (hw _ (List.mem_of_getElem? (i := 19) rfl))) (mvT hZ (hw _ (List.mem_of_getElem? (i := 18) rfl))) (by decide) (backOf (W := 0) (rmM l Z a0 hw [] b1 M h1 n0 Z1 F1) hZ (hw _ (List.mem_of_getElem? (i := 20) rfl)) (hw _ (List.mem_of_getElem? (i := 3) rfl)) (by decide) (by decide)) q2a q2c (g := (mkF m 78 #[.val (.long x0), .second, .val (.int x1), .val (.long (2147483639 : Int64)), .second, .val (.long M), .second, .val (.int (x1 &&& (3 : Int32))), .val (.ref b1)] [(.ref b1)])) rfl (by rw [hml]; rfl) (Steps.refl _) (argsL := []) (rest := []) (lenOf pd_2 rfl) rfl (by show 2 * 0 + _ ≤ _; exact Nat.le_of_eq rfl) (hb hby at_78) (fun _ _ => ⟨rfl, e1, (by decide : 1 + 0 ≤ _), (by decide : 1 + 0 ≤ _)⟩)
  dsimp only [Pt.U, Pt.locs, Pt.cells, Pt.slots] at X2 l2 y2 z2 st2 hQ2
  subst l2 y2 z2
  obtain ⟨rfl, N2q, e2⟩ := hQ2
  have N2 := Fr.app N1 N2q
  refine own_go (fun _ k => st2.trans k) ?_
  show own_G p e below s _ _ _ (T2.setTop (mkF m 81 #[.val (.long x0), .second, .val (.int x1), .val (.long (2147483639 : Int64)), .second, .val (.long M), .second, .val (.int (x1 &&& (3 : Int32))), .val (.ref b1)] [(.long M)]))
  refine own_go (fun _ k => XS.lload X2.here hx rfl (hb hby at_81) rfl k) ?_
  show own_G p e below s _ _ _ (T2.setTop (mkF m 83 #[.val (.long x0), .second, .val (.int x1), .val (.long (2147483639 : Int64)), .second, .val (.long M), .second, .val (.int (x1 &&& (3 : Int32))), .val (.ref b1)] [(.long M), (.long M)]))
  refine own_go (fun _ k => XS.lcmp X2.here hx rfl (hb hby at_83) rfl k) ?_
  show own_G p e below s _ _ _ (T2.setTop (mkF m 84 #[.val (.long x0), .second, .val (.int x1), .val (.long (2147483639 : Int64)), .second, .val (.long M), .second, .val (.int (x1 &&& (3 : Int32))), .val (.ref b1)] [(.int (lcmpW M M))]))
  refine own_if_eqY X2 hx (pc := 84) (pc' := 89) (hb hby at_84) (by decide) (by decide) ((lw_eq M M).mpr rfl) ?_
  show own_G p e below s _ _ _ (T2.setTop (mkF m 89 #[.val (.long x0), .second, .val (.int x1), .val (.long (2147483639 : Int64)), .second, .val (.long M), .second, .val (.int (x1 &&& (3 : Int32))), .val (.ref b1)] []))
  refine own_go (fun _ k => XS.aload X2.here hx rfl (hb hby at_89) rfl rfl k) ?_
  show own_G p e below s _ _ _ (T2.setTop (mkF m 91 #[.val (.long x0), .second, .val (.int x1), .val (.long (2147483639 : Int64)), .second, .val (.long M), .second, .val (.int (x1 &&& (3 : Int32))), .val (.ref b1)] [(.ref b1)]))
  refine own_go (fun _ k => XS.lload X2.here hx rfl (hb hby at_91) rfl k) ?_
  show own_G p e below s _ _ _ (T2.setTop (mkF m 93 #[.val (.long x0), .second, .val (.int x1), .val (.long (2147483639 : Int64)), .second, .val (.long M), .second, .val (.int (x1 &&& (3 : Int32))), .val (.ref b1)] [(.long M), (.ref b1)]))
  refine own_go (fun _ k => XS.lconst X2.here hx rfl (hb hby at_93) k) ?_
  show own_G p e below s _ _ _ (T2.setTop (mkF m 94 #[.val (.long x0), .second, .val (.int x1), .val (.long (2147483639 : Int64)), .second, .val (.long M), .second, .val (.int (x1 &&& (3 : Int32))), .val (.ref b1)] [(.long (1 : Int64)), (.long M), (.ref b1)]))
  obtain ⟨cq3, kq3, q3a, q3b, q3c⟩ := isOf hZ e2 E1
  obtain ⟨_, _, ⟨T3, L3, k3, n3⟩, -, X3, ⟨Lc3, hQ3, l3, y3, z3⟩, st3⟩ := X2.virtualBack hx (y := (⟨"com/example/sixteenfold/sixteenfold/files/PixelLimit", "allows", "(JJ)Z"⟩ : MethodName)) (z := (⟨"com/example/sixteenfold/sixteenfold/files/PixelLimit", "allows", "(JJ)Z"⟩ : MethodName)) hown (mvT hZ (hw _ (List.mem_of_getElem? (i := 21) rfl))) (mvT hZ (hw _ (List.mem_of_getElem? (i := 22) rfl))) (notFace_of_selects (args := #[]) (mvT hZ (hw _ (List.mem_of_getElem? (i := 24) rfl)))) (mvT hZ (hw _ (List.mem_of_getElem? (i := 24) rfl))) (mvT hZ (hw _ (List.mem_of_getElem? (i := 23) rfl))) (by decide) (backOf (W := 0) (rmA1 l Z a0 hw [] b1 M (1 : Int64) M h1 n0 Z1 F1 (own_irr M) hM1 (own_mul1 M)) hZ (hw _ (List.mem_of_getElem? (i := 25) rfl)) (hw _ (List.mem_of_getElem? (i := 3) rfl)) (by decide) (by decide)) q3a q3c (g := (mkF m 94 #[.val (.long x0), .second, .val (.int x1), .val (.long (2147483639 : Int64)), .second, .val (.long M), .second, .val (.int (x1 &&& (3 : Int32))), .val (.ref b1)] [(.long (1 : Int64)), (.long M), (.ref b1)])) rfl (by rw [hml]; rfl) (Steps.refl _) (argsL := [(.long M), (.long (1 : Int64))]) (rest := []) (lenOf pd_3 rfl) rfl (by show 2 * 0 + _ ≤ _; exact Nat.le_of_eq rfl) (hb hby at_94) (fun _ _ => ⟨rfl, e2, (by decide : 1 + 0 ≤ _), (by decide : 1 + 0 ≤ _)⟩)
  dsimp only [Pt.U, Pt.locs, Pt.cells, Pt.slots] at X3 l3 y3 z3 st3 hQ3
  subst l3 y3 z3
  obtain ⟨rfl, N3q, e3⟩ := hQ3
  have N3 := Fr.app N2 N3q
  refine own_go (fun _ k => st3.trans k) ?_
  show own_G p e below s _ _ _ (T3.setTop (mkF m 97 #[.val (.long x0), .second, .val (.int x1), .val (.long (2147483639 : Int64)), .second, .val (.long M), .second, .val (.int (x1 &&& (3 : Int32))), .val (.ref b1)] [(.int (1 : Int32))]))
  refine own_if_neY X3 hx (pc := 97) (pc' := 102) (hb hby at_97) (by decide) (by decide) (by decide) ?_
  show own_G p e below s _ _ _ (T3.setTop (mkF m 102 #[.val (.long x0), .second, .val (.int x1), .val (.long (2147483639 : Int64)), .second, .val (.long M), .second, .val (.int (x1 &&& (3 : Int32))), .val (.ref b1)] []))
  refine own_go (fun _ k => XS.aload X3.here hx rfl (hb hby at_102) rfl rfl k) ?_
  show own_G p e below s _ _ _ (T3.setTop (mkF m 104 #[.val (.long x0), .second, .val (.int x1), .val (.long (2147483639 : Int64)), .second, .val (.long M), .second, .val (.int (x1 &&& (3 : Int32))), .val (.ref b1)] [(.ref b1)]))
  refine own_go (fun _ k => XS.lload X3.here hx rfl (hb hby at_104) rfl k) ?_
  show own_G p e below s _ _ _ (T3.setTop (mkF m 106 #[.val (.long x0), .second, .val (.int x1), .val (.long (2147483639 : Int64)), .second, .val (.long M), .second, .val (.int (x1 &&& (3 : Int32))), .val (.ref b1)] [(.long M), (.ref b1)]))
  refine own_go (fun _ k => XS.lconst X3.here hx rfl (hb hby at_106) k) ?_
  show own_G p e below s _ _ _ (T3.setTop (mkF m 107 #[.val (.long x0), .second, .val (.int x1), .val (.long (2147483639 : Int64)), .second, .val (.long M), .second, .val (.int (x1 &&& (3 : Int32))), .val (.ref b1)] [(.long (1 : Int64)), (.long M), (.ref b1)]))
  refine own_go (fun _ k => XS.ladd X3.here hx rfl (hb hby at_107) rfl k) ?_
  show own_G p e below s _ _ _ (T3.setTop (mkF m 108 #[.val (.long x0), .second, .val (.int x1), .val (.long (2147483639 : Int64)), .second, .val (.long M), .second, .val (.int (x1 &&& (3 : Int32))), .val (.ref b1)] [(.long (M + (1 : Int64))), (.ref b1)]))
  refine own_go (fun _ k => XS.lconst X3.here hx rfl (hb hby at_108) k) ?_
  show own_G p e below s _ _ _ (T3.setTop (mkF m 109 #[.val (.long x0), .second, .val (.int x1), .val (.long (2147483639 : Int64)), .second, .val (.long M), .second, .val (.int (x1 &&& (3 : Int32))), .val (.ref b1)] [(.long (1 : Int64)), (.long (M + (1 : Int64))), (.ref b1)]))
  obtain ⟨cq4, kq4, q4a, q4b, q4c⟩ := isOf hZ e3 E1
  obtain ⟨_, _, ⟨T4, L4, k4, n4⟩, -, X4, ⟨Lc4, hQ4, l4, y4, z4⟩, st4⟩ := X3.virtualBack hx (y := (⟨"com/example/sixteenfold/sixteenfold/files/PixelLimit", "allows", "(JJ)Z"⟩ : MethodName)) (z := (⟨"com/example/sixteenfold/sixteenfold/files/PixelLimit", "allows", "(JJ)Z"⟩ : MethodName)) hown (mvT hZ (hw _ (List.mem_of_getElem? (i := 21) rfl))) (mvT hZ (hw _ (List.mem_of_getElem? (i := 22) rfl))) (notFace_of_selects (args := #[]) (mvT hZ (hw _ (List.mem_of_getElem? (i := 24) rfl)))) (mvT hZ (hw _ (List.mem_of_getElem? (i := 24) rfl))) (mvT hZ (hw _ (List.mem_of_getElem? (i := 23) rfl))) (by decide) (backOf (W := 0) (rmA0 l Z a0 hw [] b1 (M + (1 : Int64)) (1 : Int64) M h1 n0 Z1 F1 (own_up hM2 hM1)) hZ (hw _ (List.mem_of_getElem? (i := 25) rfl)) (hw _ (List.mem_of_getElem? (i := 3) rfl)) (by decide) (by decide)) q4a q4c (g := (mkF m 109 #[.val (.long x0), .second, .val (.int x1), .val (.long (2147483639 : Int64)), .second, .val (.long M), .second, .val (.int (x1 &&& (3 : Int32))), .val (.ref b1)] [(.long (1 : Int64)), (.long (M + (1 : Int64))), (.ref b1)])) rfl (by rw [hml]; rfl) (Steps.refl _) (argsL := [(.long (M + (1 : Int64))), (.long (1 : Int64))]) (rest := []) (lenOf pd_3 rfl) rfl (by show 2 * 0 + _ ≤ _; exact Nat.le_of_eq rfl) (hb hby at_109) (fun _ _ => ⟨rfl, e3, (by decide : 1 + 0 ≤ _), (by decide : 1 + 0 ≤ _)⟩)
  dsimp only [Pt.U, Pt.locs, Pt.cells, Pt.slots] at X4 l4 y4 z4 st4 hQ4
  subst l4 y4 z4
  obtain ⟨rfl, N4q, e4⟩ := hQ4
  have N4 := Fr.app N3 N4q
  refine own_go (fun _ k => st4.trans k) ?_
  show own_G p e below s _ _ _ (T4.setTop (mkF m 112 #[.val (.long x0), .second, .val (.int x1), .val (.long (2147483639 : Int64)), .second, .val (.long M), .second, .val (.int (x1 &&& (3 : Int32))), .val (.ref b1)] [(.int (0 : Int32))]))
  refine own_if_eqY X4 hx (pc := 112) (pc' := 117) (hb hby at_112) (by decide) (by decide) (by decide) ?_
  show own_G p e below s _ _ _ (T4.setTop (mkF m 117 #[.val (.long x0), .second, .val (.int x1), .val (.long (2147483639 : Int64)), .second, .val (.long M), .second, .val (.int (x1 &&& (3 : Int32))), .val (.ref b1)] []))
  refine own_go (fun _ k => XS.iconst X4.here hx rfl (hb hby at_117) k) ?_
  show own_G p e below s _ _ _ (T4.setTop (mkF m 118 #[.val (.long x0), .second, .val (.int x1), .val (.long (2147483639 : Int64)), .second, .val (.long M), .second, .val (.int (x1 &&& (3 : Int32))), .val (.ref b1)] [(.int (1 : Int32))]))
  exact own_retN (t := .boolean) (ht := by simp) X4 hx Bd.returns (BodyLoose.notSynchronized Bd) (hb hby at_118) e4 ⟨rfl, N4⟩ (by decide) (by decide)
set_option maxRecDepth 65536 in
set_option maxHeartbeats 40000000 in
theorem comes_1 {Post : Tables → Env → Array Value → State → Outcome → State → Prop} (hpost : ∀ tb e args s v u, (limb_1_1.after args s (.returned v) u = true ∧ limb_1_2.after args s (.returned v) u = true ∧ True) → FrameEnd s (.returned v) u (Jvm.fieldLocs frame_1_writes args s ++ Jvm.arrayLocs frame_1_arrays args s ++ Jvm.staticLocs frame_1_statics s) 16 128 → Post tb e args s (.returned v) u) :
    ArmFor flags0 classFile x code maxLocals ret World_1 tables_1 room_1 Calls_1 rest_1 Pre_1 Post := by
  intro l hfl _ _ p e ha hc hk s m args below hf hA hF happ hP
  obtain ⟨hcalls, hrest, hpre⟩ := hP
  obtain ⟨-, -, -, hnamed, -, -, -, hat⟩ := (Spec.applies_iff hf).mp happ
  obtain ⟨hg, hn⟩ := and_e (Cond.before_iff.mp (show (Jvm.Cond.and given_1 narrow_1).before args s = true from hpre))
  obtain ⟨hct, hr0⟩ := and_e hg
  obtain ⟨hv0, hr1⟩ := and_e hr0
  obtain ⟨w0, w1, rfl⟩ : ∃ w0 w1 : Value, args = #[w0, w1] := by
    have hs : args.size = 2 := by simpa [Cond.value, given_1] using hct
    obtain ⟨L⟩ := args
    match L, hs with
    | [w0, w1], _ => exact ⟨w0, w1, rfl⟩
  have hw := fun d (hd : d ∈ tables_1) => atoms_spec (ws := Jvm.Cond.code x code maxLocals ret :: tables_1) hat d (List.mem_cons_of_mem _ hd)
  have hfit : Fit s := fun {y c} hc i hi => by
    obtain ⟨ha, rfl⟩ := Array.getElem?_eq_some_iff.mp hc
    have q := List.all_eq_true.mp ((Array.all_eq_true_iff_forall_mem.mp hF) _ (Array.getElem_mem ha)) i (List.mem_range.mpr hi)
    simpa [Array.getElem?_eq_getElem hi] using q
  obtain ⟨i0, ei0⟩ := isL_v hv0
  obtain rfl : w0 = (.long i0) := Option.some.inj ei0
  obtain ⟨i1, ei1⟩ := is_v hr1
  obtain rfl : w1 = (.int i1) := Option.some.inj ei1
  obtain ⟨n, o, h1, h2, h3, _, L, rfl, ⟨rfl, N⟩, hq⟩ := rm0 l s _ hw tables_1 i0 i1 s.heap s.heap.size (Nat.le_refl _)  p e ha hc hk s m _ below hf ((Spec.applies_iff_loose hf).mp happ).1 ⟨rfl, State.Warmed39.refl s, rfl⟩ trivial
  refine ⟨n, _, h1, h2, h3, hpost _ _ _ _ _ _ ⟨Cond.after_iff.mpr rfl, Cond.after_iff.mpr (eq_i res_at (Term.int_eval (1)) rfl), trivial⟩ ⟨hq.1, hq.2.1, (hq.2.2.sift fun y hy => Or.inr (N y hy)).mono (by decide) (by decide)⟩⟩
theorem main_1_1 : Claimed_1_1 := comes_1 fun _ _ _ _ _ _ h hF => ⟨h.1, hF⟩
theorem main_1_2 : Claimed_1_2 := comes_1 fun _ _ _ _ _ _ h hF => ⟨h.2.1, hF⟩
end Jvm.Pilot.@@N@@
namespace Jvm.Pilot.@@N@@
open Jvm Jvm.ClassFile Sem Op Lib Jvm.Free Jvm.Stand Jvm.Pilot.@@N@@.Jvm.D
/-! MADE BY PROGRAM (witnessworld.py) out of the Statement's table words and the real class files: 9 classes; the members and pool entries that the words name. The judged class is class 1, her method 1. -/
namespace start1
open Jvm.ClassFile
def u (s : String) : CpInfo := .utf8 (stringToUtf16 s)
/-- a pool by its gaps: so many unusable entries, then the entry; so many at the end -/
def gap : Nat → List CpInfo → List CpInfo
  | 0, r => r
  | n + 1, r => .unusable :: gap n r
def poolList (es : List (Nat × CpInfo)) (last : Nat) : List CpInfo := es.foldr (fun e r => gap e.1 (e.2 :: r)) (gap last [])
def pool (es : List (Nat × CpInfo)) (last : Nat) : Array CpInfo := ⟨poolList es last⟩
def fileOf (pool : Array CpInfo) (this : Nat) (attrs : Array Attribute := #[]) (ms : Array MethodInfo := #[]) (fl : Nat := 33) (sup : Nat := 0) (ifs : Array Nat := #[]) (fds : Array FieldInfo := #[]) : ClassFile where
  minorVersion := 0
  majorVersion := 65
  constantPool := pool
  accessFlags := fl
  thisClass := this
  superClass := sup
  interfaces := ifs
  fields := fds
  methods := ms
  attributes := attrs
def plain (name : String) (sup : Option ClassId) : Class where
  name := name
  kind := .ordinary
  loader := none
  accessFlags := 33
  super := sup
  interfaces := #[]
  cf := none
  fields := #[]
  methods := #[]
  instanceTypes := #[]
  staticTypes := #[]
  resolved := #[]
  callSites := []
  init := .initialized
  statics := none
  mirror := none

def pool0 : Array CpInfo := pool [(5, u "<init>"), (0, u "()V"), (1, .class_ 10), (1, u "java/lang/Object")] 113

def k0c0 : Code := { maxStack := 0, maxLocals := 1, code := object_method_1_code, exceptionTable := #[], attributes := #[] }
def k0m0 : Method := { name := "<init>", desc := "()V", sig := { parameters := [], returnType := none }, accessFlags := 1, code := some k0c0 }
/-- java/lang/Object -/
def k0 : Class := { plain "java/lang/Object" none with
  accessFlags := 33
  interfaces := #[]
  cf := some (fileOf pool0 8 #[] #[{ accessFlags := 1, nameIndex := 5, descriptorIndex := 6, attributes := #[] }] 33 0 #[] #[])
  fields := #[]
  methods := #[k0m0]
  instanceTypes := #[]
  staticTypes := #[]
  resolved := Array.replicate 124 none
  statics := none }

def pool1 : Array CpInfo := pool [(2, .class_ 4), (1, u "java/lang/Object"), (0, u "<init>"), (0, u "()V"), (0, .long 2147483639), (1, .long 7), (1, .long 2147483647), (1, .methodref 14 15), (0, .class_ 16), (0, .nameAndType 17 18), (0, u "com/example/sixteenfold/sixteenfold/files/PixelLimit"), (0, u "of"), (0, u "(J)Lcom/example/sixteenfold/sixteenfold/files/PixelLimit;"), (0, .methodref 14 20), (0, .nameAndType 21 22), (0, u "max"), (0, u "()J"), (0, .methodref 14 24), (0, .nameAndType 25 26), (0, u "allows"), (0, u "(JJ)Z"), (0, .class_ 28), (0, u "com/example/sixteenfold/sixteenfold/files/PixelLimitOfPinLaw"), (2, u "law"), (0, u "(JI)Z")] 3

def k1m0 : Method := { name := "<init>", desc := "()V", sig := { parameters := [], returnType := none }, accessFlags := 2, code := none }
def k1c1 : Code := { maxStack := 6, maxLocals := 9, code := code, exceptionTable := #[], attributes := #[] }
def k1m1 : Method := { name := "law", desc := "(JI)Z", sig := { parameters := [.long, .int], returnType := some .boolean }, accessFlags := 9, code := some k1c1 }
/-- com/example/sixteenfold/sixteenfold/files/PixelLimitOfPinLaw -/
def k1 : Class := { plain "com/example/sixteenfold/sixteenfold/files/PixelLimitOfPinLaw" (some 0) with
  accessFlags := 49
  interfaces := #[]
  cf := some (fileOf pool1 27 #[] #[{ accessFlags := 2, nameIndex := 5, descriptorIndex := 6, attributes := #[] }, { accessFlags := 9, nameIndex := 31, descriptorIndex := 32, attributes := #[] }] 49 2 #[] #[])
  fields := #[]
  methods := #[k1m0, k1m1]
  instanceTypes := #[]
  staticTypes := #[]
  resolved := Array.replicate 36 none
  statics := none }

def pool2 : Array CpInfo := pool [(3, .methodref 4 5), (0, .class_ 6), (0, .nameAndType 7 8), (0, u "java/lang/Object"), (0, u "<init>"), (0, u "()V"), (0, .fieldref 10 11), (0, .class_ 12), (0, .nameAndType 13 14), (0, u "com/example/sixteenfold/sixteenfold/files/PixelLimit"), (0, u "max"), (0, u "J"), (0, .long 2147483639), (10, .methodref 10 27), (0, .nameAndType 7 28), (0, u "(J)V"), (4, u "DEFAULT"), (0, u "Lcom/example/sixteenfold/sixteenfold/files/PixelLimit;"), (0, u "LARGEST"), (3, u "of"), (0, u "(J)Lcom/example/sixteenfold/sixteenfold/files/PixelLimit;"), (1, u "()J"), (0, u "allows"), (0, u "(JJ)Z")] 18

def k2c0 : Code := { maxStack := 3, maxLocals := 3, code := prog_17_method_1_code, exceptionTable := #[], attributes := #[] }
def k2m0 : Method := { name := "<init>", desc := "(J)V", sig := { parameters := [.long], returnType := none }, accessFlags := 2, code := some k2c0 }
def k2c1 : Code := { maxStack := 4, maxLocals := 2, code := prog_17_method_2_code, exceptionTable := #[], attributes := #[] }
def k2m1 : Method := { name := "of", desc := "(J)Lcom/example/sixteenfold/sixteenfold/files/PixelLimit;", sig := { parameters := [.long], returnType := some (.object "com/example/sixteenfold/sixteenfold/files/PixelLimit") }, accessFlags := 9, code := some k2c1 }
def k2c2 : Code := { maxStack := 2, maxLocals := 1, code := prog_17_method_3_code, exceptionTable := #[], attributes := #[] }
def k2m2 : Method := { name := "max", desc := "()J", sig := { parameters := [], returnType := some .long }, accessFlags := 1, code := some k2c2 }
def k2c3 : Code := { maxStack := 4, maxLocals := 5, code := prog_17_method_4_code, exceptionTable := #[], attributes := #[] }
def k2m3 : Method := { name := "allows", desc := "(JJ)Z", sig := { parameters := [.long, .long], returnType := some .boolean }, accessFlags := 1, code := some k2c3 }
/-- com/example/sixteenfold/sixteenfold/files/PixelLimit -/
def k2 : Class := { plain "com/example/sixteenfold/sixteenfold/files/PixelLimit" (some 0) with
  accessFlags := 49
  interfaces := #[]
  cf := some (fileOf pool2 10 #[] #[{ accessFlags := 2, nameIndex := 7, descriptorIndex := 28, attributes := #[] }, { accessFlags := 9, nameIndex := 39, descriptorIndex := 40, attributes := #[] }, { accessFlags := 1, nameIndex := 13, descriptorIndex := 42, attributes := #[] }, { accessFlags := 1, nameIndex := 43, descriptorIndex := 44, attributes := #[] }] 49 4 #[] #[{ accessFlags := 25, nameIndex := 33, descriptorIndex := 34, attributes := #[] }, { accessFlags := 25, nameIndex := 35, descriptorIndex := 14, attributes := #[] }, { accessFlags := 18, nameIndex := 13, descriptorIndex := 14, attributes := #[] }])
  fields := #[{ name := "DEFAULT", type := (.object "com/example/sixteenfold/sixteenfold/files/PixelLimit"), accessFlags := 25, slot := 0, constantValue := 0 }, { name := "LARGEST", type := .long, accessFlags := 25, slot := 1, constantValue := 0 }, { name := "max", type := .long, accessFlags := 18, slot := 0, constantValue := 0 }]
  methods := #[k2m0, k2m1, k2m2, k2m3]
  instanceTypes := #[.long]
  staticTypes := #[(.object "com/example/sixteenfold/sixteenfold/files/PixelLimit"), .long]
  resolved := Array.replicate 63 none
  statics := none }

def pool3 : Array CpInfo := pool [(1, u "java/lang/Cloneable"), (0, .class_ 1), (0, u "java/lang/Object"), (0, .class_ 3)] 3

/-- java/lang/Cloneable -/
def k3 : Class := { plain "java/lang/Cloneable" (some 0) with
  accessFlags := 1537
  interfaces := #[]
  cf := some (fileOf pool3 2 #[] #[] 1537 4 #[] #[])
  fields := #[]
  methods := #[]
  instanceTypes := #[]
  staticTypes := #[]
  resolved := Array.replicate 8 none
  statics := none }

def pool4 : Array CpInfo := pool [(1, u "java/io/Serializable"), (0, .class_ 1), (0, u "java/lang/Object"), (0, .class_ 3)] 3

/-- java/io/Serializable -/
def k4 : Class := { plain "java/io/Serializable" (some 0) with
  accessFlags := 1537
  interfaces := #[]
  cf := some (fileOf pool4 2 #[] #[] 1537 4 #[] #[])
  fields := #[]
  methods := #[]
  instanceTypes := #[]
  staticTypes := #[]
  resolved := Array.replicate 8 none
  statics := none }

/-- the primitive byte -/
def k5 : Class := { plain "byte" none with kind := .primitive 'B', accessFlags := 0x411 }
/-- [B -/
def k6 : Class := { plain "[B" (some 0) with kind := .array 5 .byte, interfaces := #[3, 4], accessFlags := 1041 }

/-- the primitive int -/
def k7 : Class := { plain "int" none with kind := .primitive 'I', accessFlags := 0x411 }
/-- [I -/
def k8 : Class := { plain "[I" (some 0) with kind := .array 7 .int, interfaces := #[3, 4], accessFlags := 1041 }

def heap : Heap := #[]
def classes : Array Class := #[k0, k1, k2, k3, k4, k5, k6, k7, k8]
def interned : List (Array UInt16 × Addr) := []
def slotsUsed : Nat := 0
def theMethod : MethodId := ⟨1, 1⟩
def args0 : Array Value := #[.long 5, .int 1]
def aboutOver (below : List Frame) : State where
  vm := { classes := classes, interned := interned.toArray }
  heap := heap
  slotsUsed := slotsUsed
  threads := #[{ frames := .invoking theMethod args0 :: below }]
def below0 : List Frame := [.native { method := ⟨0, 0⟩, args := #[] }]
def about1 : State := aboutOver below0
def p0 : Program := .bare "" "" ""
def e0 : Env := launch0.env 0 0 0
theorem w_frames : about1.frames = Frame.invoking theMethod args0 :: below0 := rfl
set_option maxRecDepth 65536 in
theorem w_args : argsFit about1.vm theMethod args0 = true := by decide +kernel
set_option maxRecDepth 65536 in
theorem w_heap : heapFits about1 = true := by decide +kernel
set_option maxRecDepth 65536 in
theorem w_runnable : about1.curStatus? = some .runnable := by decide +kernel
set_option maxRecDepth 65536 in
theorem w_alone : about1.alone = true := by decide +kernel
set_option maxRecDepth 65536 in
theorem w_named : about1.methodNamed? x = some theMethod := by decide +kernel
set_option maxRecDepth 65536 in
theorem w_hears : about1.hears theMethod below0 = true := by decide +kernel
set_option maxRecDepth 65536 in
theorem w_ripe : about1.ripe theMethod args0 below0 = true := by decide +kernel
theorem w_running : about1.status = .running := rfl
set_option maxRecDepth 65536 in
theorem w_room : about1.hasRoom e0.platform room_1 = true :=
  launch0.hasRoom_least _ room_1 (by decide +kernel) (by decide +kernel) (by decide +kernel) (by decide +kernel) (by decide +kernel) (by decide +kernel)
theorem allAtoms_all (ts : List Jvm.Cond) (a : Array Jvm.Value) (st : Jvm.State) : (allAtoms ts).before a st = ts.all (fun c => c.before a st) := by
  induction ts with
  | nil => rfl
  | cons c t ih =>
    show (Jvm.Cond.and c (allAtoms t)).before a st = _
    rw [Jvm.Cond.before_and, ih, List.all_cons]
def words1 : List Jvm.Cond := Jvm.Cond.code x code maxLocals ret :: tables_1
/-- a 'code' word, met by the world's own term for the bytes: nothing is compared byte by byte -/
theorem code_word {y : MethodName} {bytes : ByteArray} {mx : Nat} {rt : Option FieldType} {a : Array Value} {s : State} {m : MethodId} {meth : Method} {c : Code} (h1 : s.methodNamed? y = some m) (h2 : s.vm.method? m = some meth) (h3 : meth.code = some c) (h4 : c.code = bytes)
    (h5 : (c.maxLocals == mx && c.exceptionTable.isEmpty && decide (c.maxStack ≤ mostOperands) && decide (meth.sig.returnType = rt) && !meth.locks && decide (parseMethodDescriptor y.desc = some meth.sig)) = true) : (Jvm.Cond.code y bytes mx rt).before a s = true := by
  simp only [Bool.and_eq_true, beq_iff_eq, Bool.not_eq_true', decide_eq_true_eq] at h5
  obtain ⟨⟨⟨⟨⟨g1, g2⟩, g3⟩, g4⟩, g5⟩, g6⟩ := h5
  simp [Cond.before, Cond.holds, Cond.value, h1, h2, h3, h4, g1, g2, g3, g4, g5, g6]
def isCode : Jvm.Cond → Bool
  | .code _ _ _ _ => true
  | _ => false
theorem all_split {L : List Jvm.Cond} {P : Jvm.Cond → Bool} (h1 : L.all (fun c => isCode c || P c) = true) (h2 : ∀ c ∈ L.filter isCode, P c = true) : L.all P = true := by
  refine List.all_eq_true.mpr fun c hc => ?_
  have h := List.all_eq_true.mp h1 c hc
  rcases Bool.eq_false_or_eq_true (isCode c) with hi | hi
  · exact h2 c (List.mem_filter.mpr ⟨hc, hi⟩)
  · simpa [hi] using h
set_option maxRecDepth 65536 in
theorem w_c0 : (Jvm.Cond.code x code maxLocals ret).before args0 about1 = true := code_word (m := ⟨1, 1⟩) (meth := k1m1) (c := k1c1) (by decide +kernel) rfl rfl rfl (by decide +kernel)
set_option maxRecDepth 65536 in
theorem w_c1 : (Jvm.Cond.code ({ cls := "com/example/sixteenfold/sixteenfold/files/PixelLimit", name := "of", desc := "(J)Lcom/example/sixteenfold/sixteenfold/files/PixelLimit;" } : Jvm.MethodName) prog_17_method_2_code (2 : Nat) (Option.some (Jvm.ClassFile.FieldType.object "com/example/sixteenfold/sixteenfold/files/PixelLimit"))).before args0 about1 = true := code_word (m := ⟨2, 1⟩) (meth := k2m1) (c := k2c1) (by decide +kernel) rfl rfl rfl (by decide +kernel)
set_option maxRecDepth 65536 in
theorem w_c2 : (Jvm.Cond.code ({ cls := "com/example/sixteenfold/sixteenfold/files/PixelLimit", name := "<init>", desc := "(J)V" } : Jvm.MethodName) prog_17_method_1_code (3 : Nat) (Option.none : Option Jvm.ClassFile.FieldType)).before args0 about1 = true := code_word (m := ⟨2, 0⟩) (meth := k2m0) (c := k2c0) (by decide +kernel) rfl rfl rfl (by decide +kernel)
set_option maxRecDepth 65536 in
theorem w_c3 : (Jvm.Cond.code ({ cls := "java/lang/Object", name := "<init>", desc := "()V" } : Jvm.MethodName) object_method_1_code (1 : Nat) (Option.none : Option Jvm.ClassFile.FieldType)).before args0 about1 = true := code_word (m := ⟨0, 0⟩) (meth := k0m0) (c := k0c0) (by decide +kernel) rfl rfl rfl (by decide +kernel)
set_option maxRecDepth 65536 in
theorem w_c4 : (Jvm.Cond.code ({ cls := "com/example/sixteenfold/sixteenfold/files/PixelLimit", name := "max", desc := "()J" } : Jvm.MethodName) prog_17_method_3_code (1 : Nat) (Option.some Jvm.ClassFile.FieldType.long)).before args0 about1 = true := code_word (m := ⟨2, 2⟩) (meth := k2m2) (c := k2c2) (by decide +kernel) rfl rfl rfl (by decide +kernel)
set_option maxRecDepth 65536 in
theorem w_c5 : (Jvm.Cond.code ({ cls := "com/example/sixteenfold/sixteenfold/files/PixelLimit", name := "allows", desc := "(JJ)Z" } : Jvm.MethodName) prog_17_method_4_code (5 : Nat) (Option.some Jvm.ClassFile.FieldType.boolean)).before args0 about1 = true := code_word (m := ⟨2, 3⟩) (meth := k2m3) (c := k2c3) (by decide +kernel) rfl rfl rfl (by decide +kernel)
def codes1 : List Jvm.Cond := [Jvm.Cond.code x code maxLocals ret, Jvm.Cond.code ({ cls := "com/example/sixteenfold/sixteenfold/files/PixelLimit", name := "of", desc := "(J)Lcom/example/sixteenfold/sixteenfold/files/PixelLimit;" } : Jvm.MethodName) prog_17_method_2_code (2 : Nat) (Option.some (Jvm.ClassFile.FieldType.object "com/example/sixteenfold/sixteenfold/files/PixelLimit")), Jvm.Cond.code ({ cls := "com/example/sixteenfold/sixteenfold/files/PixelLimit", name := "<init>", desc := "(J)V" } : Jvm.MethodName) prog_17_method_1_code (3 : Nat) (Option.none : Option Jvm.ClassFile.FieldType), Jvm.Cond.code ({ cls := "java/lang/Object", name := "<init>", desc := "()V" } : Jvm.MethodName) object_method_1_code (1 : Nat) (Option.none : Option Jvm.ClassFile.FieldType), Jvm.Cond.code ({ cls := "com/example/sixteenfold/sixteenfold/files/PixelLimit", name := "max", desc := "()J" } : Jvm.MethodName) prog_17_method_3_code (1 : Nat) (Option.some Jvm.ClassFile.FieldType.long), Jvm.Cond.code ({ cls := "com/example/sixteenfold/sixteenfold/files/PixelLimit", name := "allows", desc := "(JJ)Z" } : Jvm.MethodName) prog_17_method_4_code (5 : Nat) (Option.some Jvm.ClassFile.FieldType.boolean)]
set_option maxRecDepth 65536 in
theorem codes_eq : words1.filter isCode = codes1 := rfl
theorem w_codes : ∀ c ∈ words1.filter isCode, c.before args0 about1 = true := by
  rw [codes_eq]
  intro c hc
  simp only [codes1, List.mem_cons, List.not_mem_nil, or_false] at hc
  rcases hc with rfl | rfl | rfl | rfl | rfl | rfl
  · exact w_c0
  · exact w_c1
  · exact w_c2
  · exact w_c3
  · exact w_c4
  · exact w_c5
set_option maxRecDepth 65536 in
theorem w_t1 : (words1.take 24).all (fun c => isCode c || c.before args0 about1) = true := by decide +kernel
set_option maxRecDepth 65536 in
theorem w_t2 : (words1.drop 24).all (fun c => isCode c || c.before args0 about1) = true := by decide +kernel
theorem w_tables : (allAtoms (Jvm.Cond.code x code maxLocals ret :: tables_1)).before args0 about1 = true := by
  rw [allAtoms_all]
  show words1.all (fun c => c.before args0 about1) = true
  refine all_split ?_ w_codes
  rw [← List.take_append_drop 24 words1, List.all_append, w_t1, w_t2]
  rfl
set_option maxRecDepth 65536 in
theorem w_case : (Jvm.Cond.and given_1 narrow_1).before args0 about1 = true := by decide +kernel
theorem w_applies : (headSpec (Jvm.Cond.code x code maxLocals ret :: tables_1) room_1).applies x e0.platform about1 = true :=
  (Spec.applies_iff w_frames).mpr ⟨w_running, w_runnable, w_alone, w_named, w_hears, w_ripe, w_room, w_tables⟩
theorem atStart : AtStart classFile x code maxLocals ret World_1 tables_1 room_1 Calls_1 rest_1 Pre_1 launch0 p0 e0 about1 theMethod args0 below0 :=
  ⟨lists_1, trivial, launch0.admits_env _ _ _, launch0.least_env, fairChoices_fair.cas, fairChoices_fair.clock, w_frames, w_args, w_heap, w_applies, trivial, trivial, w_case⟩
end start1
theorem witness_1 : WitnessClaimed_1 := ⟨start1.p0, start1.e0, start1.about1, start1.theMethod, start1.args0, start1.below0, start1.atStart⟩
end Jvm.Pilot.@@N@@
