import PyProof.Rows.All
import Wide.All
import OpenK.AllK
import KE.LcTurns
import PyProof.IsInstanceH
import Wide.FinOn
import PyProof.ToksMono
import PyProof.StrCalls6
import PyProof.StrLawsTight
import PyProof.StrLawsReplace
import KE.KWords
import Lean
import PySem.Challenge.RW_rl0043_02
set_option Elab.async false
set_option linter.unusedSimpArgs false
set_option linter.unusedVariables false
set_option maxRecDepth 100000
set_option genSizeOf false
set_option genSizeOfSpec false
set_option genInjectivity false
set_option bootstrap.genMatcherCode false
section
namespace Mine
theorem xEEEEA {T0:Sort _} {T1:T0 -> Sort _} {T2:∀ v0,T1 v0 -> Sort _} {T3:∀ v0 v1,T2 v0 v1 -> Sort _} {p0 p1:∀ v0 v1 v2,T3 v0 v1 v2 -> Prop} {Q:Prop} (h:∃ v0 v1 v2 v3,p0 v0 v1 v2 v3 /\ p1 v0 v1 v2 v3) (k:∀ v0 v1 v2 v3,p0 v0 v1 v2 v3 -> p1 v0 v1 v2 v3 -> Q):Q:=by
 obtain ⟨v0,v1,v2,v3,a,b⟩:=h
 exact k v0 v1 v2 v3 a b
theorem xAA  {p0:Prop} {p1:Prop} {p2:Prop} {Q:Prop} (h:p0 /\ p1 /\ p2) (k:p0 -> p1 -> p2 -> Q):Q:=by
 obtain ⟨h0,h1,h2⟩:=h
 exact k h0 h1 h2
theorem xAAA  {p0:Prop} {p1:Prop} {p2:Prop} {p3:Prop} {Q:Prop} (h:p0 /\ p1 /\ p2 /\ p3) (k:p0 -> p1 -> p2 -> p3 -> Q):Q:=by
 obtain ⟨h0,h1,h2,h3⟩:=h
 exact k h0 h1 h2 h3
theorem xAAAEEEEEEAA {T0:Sort _} {T1:Sort _} {T2:Sort _} {T3:Sort _} {T4:Sort _} {T5:Sort _} {p0:Prop} {p1:Prop} {p2:Prop} {p3:T0 -> T1 -> T2 -> T3 -> T4 -> T5 -> Prop} {p4:T0 -> T1 -> T2 -> T3 -> T4 -> T5 -> Prop} {p5:T0 -> T1 -> T2 -> T3 -> T4 -> T5 -> Prop} {Q:Prop} (h:p0 /\ p1 /\ p2 /\ ∃ v0,∃ v1,∃ v2,∃ v3,∃ v4,∃ v5,p3 v0 v1 v2 v3 v4 v5 /\ p4 v0 v1 v2 v3 v4 v5 /\ p5 v0 v1 v2 v3 v4 v5) (k:p0 -> p1 -> p2 -> ∀ v0,∀ v1,∀ v2,∀ v3,∀ v4,∀ v5,p3 v0 v1 v2 v3 v4 v5 -> p4 v0 v1 v2 v3 v4 v5 -> p5 v0 v1 v2 v3 v4 v5 -> Q):Q:=by
 obtain ⟨h0,h1,h2,v0,v1,v2,v3,v4,v5,h9,h10,h11⟩:=h
 exact k h0 h1 h2 v0 v1 v2 v3 v4 v5 h9 h10 h11
theorem xEA {T0:Sort _} {p0:T0 -> Prop} {p1:T0 -> Prop} {Q:Prop} (h:∃ v0,p0 v0 /\ p1 v0) (k:∀ v0,p0 v0 -> p1 v0 -> Q):Q:=by
 obtain ⟨v0,h1,h2⟩:=h
 exact k v0 h1 h2
theorem xEAA {T0:Sort _} {p0:T0 -> Prop} {p1:T0 -> Prop} {p2:T0 -> Prop} {Q:Prop} (h:∃ v0,p0 v0 /\ p1 v0 /\ p2 v0) (k:∀ v0,p0 v0 -> p1 v0 -> p2 v0 -> Q):Q:=by
 obtain ⟨v0,h1,h2,h3⟩:=h
 exact k v0 h1 h2 h3
theorem xEAAAAA {T0:Sort _} {p0:T0 -> Prop} {p1:T0 -> Prop} {p2:T0 -> Prop} {p3:T0 -> Prop} {p4:T0 -> Prop} {p5:T0 -> Prop} {Q:Prop} (h:∃ v0,p0 v0 /\ p1 v0 /\ p2 v0 /\ p3 v0 /\ p4 v0 /\ p5 v0) (k:∀ v0,p0 v0 -> p1 v0 -> p2 v0 -> p3 v0 -> p4 v0 -> p5 v0 -> Q):Q:=by
 obtain ⟨v0,h1,h2,h3,h4,h5,h6⟩:=h
 exact k v0 h1 h2 h3 h4 h5 h6
theorem xEAAE {T0:Sort _} {T1:Sort _} {p0:T0 -> Prop} {p1:T0 -> Prop} {p2:T0 -> T1 -> Prop} {Q:Prop} (h:∃ v0,p0 v0 /\ p1 v0 /\ ∃ v1,p2 v0 v1) (k:∀ v0,p0 v0 -> p1 v0 -> ∀ v1,p2 v0 v1 -> Q):Q:=by
 obtain ⟨v0,h1,h2,v1,h4⟩:=h
 exact k v0 h1 h2 v1 h4
theorem xEE {T0:Sort _} {T1:Sort _} {p0:T0 -> T1 -> Prop} {Q:Prop} (h:∃ v0,∃ v1,p0 v0 v1) (k:∀ v0,∀ v1,p0 v0 v1 -> Q):Q:=by
 obtain ⟨v0,v1,h2⟩:=h
 exact k v0 v1 h2
theorem xEEA {T0:Sort _} {T1:Sort _} {p0:T0 -> T1 -> Prop} {p1:T0 -> T1 -> Prop} {Q:Prop} (h:∃ v0,∃ v1,p0 v0 v1 /\ p1 v0 v1) (k:∀ v0,∀ v1,p0 v0 v1 -> p1 v0 v1 -> Q):Q:=by
 obtain ⟨v0,v1,h2,h3⟩:=h
 exact k v0 v1 h2 h3
theorem xEEAA {T0:Sort _} {T1:Sort _} {p0:T0 -> T1 -> Prop} {p1:T0 -> T1 -> Prop} {p2:T0 -> T1 -> Prop} {Q:Prop} (h:∃ v0,∃ v1,p0 v0 v1 /\ p1 v0 v1 /\ p2 v0 v1) (k:∀ v0,∀ v1,p0 v0 v1 -> p1 v0 v1 -> p2 v0 v1 -> Q):Q:=by
 obtain ⟨v0,v1,h2,h3,h4⟩:=h
 exact k v0 v1 h2 h3 h4
theorem xEEAAAA {T0:Sort _} {T1:Sort _} {p0:T0 -> T1 -> Prop} {p1:T0 -> T1 -> Prop} {p2:T0 -> T1 -> Prop} {p3:T0 -> T1 -> Prop} {p4:T0 -> T1 -> Prop} {Q:Prop} (h:∃ v0,∃ v1,p0 v0 v1 /\ p1 v0 v1 /\ p2 v0 v1 /\ p3 v0 v1 /\ p4 v0 v1) (k:∀ v0,∀ v1,p0 v0 v1 -> p1 v0 v1 -> p2 v0 v1 -> p3 v0 v1 -> p4 v0 v1 -> Q):Q:=by
 obtain ⟨v0,v1,h2,h3,h4,h5,h6⟩:=h
 exact k v0 v1 h2 h3 h4 h5 h6
theorem xEEE {T0:Sort _} {T1:Sort _} {T2:Sort _} {p0:T0 -> T1 -> T2 -> Prop} {Q:Prop} (h:∃ v0,∃ v1,∃ v2,p0 v0 v1 v2) (k:∀ v0,∀ v1,∀ v2,p0 v0 v1 v2 -> Q):Q:=by
 obtain ⟨v0,v1,v2,h3⟩:=h
 exact k v0 v1 v2 h3
theorem xEEEAA {T0:Sort _} {T1:Sort _} {T2:Sort _} {p0:T0 -> T1 -> T2 -> Prop} {p1:T0 -> T1 -> T2 -> Prop} {p2:T0 -> T1 -> T2 -> Prop} {Q:Prop} (h:∃ v0,∃ v1,∃ v2,p0 v0 v1 v2 /\ p1 v0 v1 v2 /\ p2 v0 v1 v2) (k:∀ v0,∀ v1,∀ v2,p0 v0 v1 v2 -> p1 v0 v1 v2 -> p2 v0 v1 v2 -> Q):Q:=by
 obtain ⟨v0,v1,v2,h3,h4,h5⟩:=h
 exact k v0 v1 v2 h3 h4 h5
theorem xEEEAAA {T0:Sort _} {T1:Sort _} {T2:Sort _} {p0:T0 -> T1 -> T2 -> Prop} {p1:T0 -> T1 -> T2 -> Prop} {p2:T0 -> T1 -> T2 -> Prop} {p3:T0 -> T1 -> T2 -> Prop} {Q:Prop} (h:∃ v0,∃ v1,∃ v2,p0 v0 v1 v2 /\ p1 v0 v1 v2 /\ p2 v0 v1 v2 /\ p3 v0 v1 v2) (k:∀ v0,∀ v1,∀ v2,p0 v0 v1 v2 -> p1 v0 v1 v2 -> p2 v0 v1 v2 -> p3 v0 v1 v2 -> Q):Q:=by
 obtain ⟨v0,v1,v2,h3,h4,h5,h6⟩:=h
 exact k v0 v1 v2 h3 h4 h5 h6
theorem xEEEAAAA {T0:Sort _} {T1:Sort _} {T2:Sort _} {p0:T0 -> T1 -> T2 -> Prop} {p1:T0 -> T1 -> T2 -> Prop} {p2:T0 -> T1 -> T2 -> Prop} {p3:T0 -> T1 -> T2 -> Prop} {p4:T0 -> T1 -> T2 -> Prop} {Q:Prop} (h:∃ v0,∃ v1,∃ v2,p0 v0 v1 v2 /\ p1 v0 v1 v2 /\ p2 v0 v1 v2 /\ p3 v0 v1 v2 /\ p4 v0 v1 v2) (k:∀ v0,∀ v1,∀ v2,p0 v0 v1 v2 -> p1 v0 v1 v2 -> p2 v0 v1 v2 -> p3 v0 v1 v2 -> p4 v0 v1 v2 -> Q):Q:=by
 obtain ⟨v0,v1,v2,h3,h4,h5,h6,h7⟩:=h
 exact k v0 v1 v2 h3 h4 h5 h6 h7
theorem xEEEEAA {T0:Sort _} {T1:Sort _} {T2:Sort _} {T3:Sort _} {p0:T0 -> T1 -> T2 -> T3 -> Prop} {p1:T0 -> T1 -> T2 -> T3 -> Prop} {p2:T0 -> T1 -> T2 -> T3 -> Prop} {Q:Prop} (h:∃ v0,∃ v1,∃ v2,∃ v3,p0 v0 v1 v2 v3 /\ p1 v0 v1 v2 v3 /\ p2 v0 v1 v2 v3) (k:∀ v0,∀ v1,∀ v2,∀ v3,p0 v0 v1 v2 v3 -> p1 v0 v1 v2 v3 -> p2 v0 v1 v2 v3 -> Q):Q:=by
 obtain ⟨v0,v1,v2,v3,h4,h5,h6⟩:=h
 exact k v0 v1 v2 v3 h4 h5 h6
theorem xEEEEAAA {T0:Sort _} {T1:Sort _} {T2:Sort _} {T3:Sort _} {p0:T0 -> T1 -> T2 -> T3 -> Prop} {p1:T0 -> T1 -> T2 -> T3 -> Prop} {p2:T0 -> T1 -> T2 -> T3 -> Prop} {p3:T0 -> T1 -> T2 -> T3 -> Prop} {Q:Prop} (h:∃ v0,∃ v1,∃ v2,∃ v3,p0 v0 v1 v2 v3 /\ p1 v0 v1 v2 v3 /\ p2 v0 v1 v2 v3 /\ p3 v0 v1 v2 v3) (k:∀ v0,∀ v1,∀ v2,∀ v3,p0 v0 v1 v2 v3 -> p1 v0 v1 v2 v3 -> p2 v0 v1 v2 v3 -> p3 v0 v1 v2 v3 -> Q):Q:=by
 obtain ⟨v0,v1,v2,v3,h4,h5,h6,h7⟩:=h
 exact k v0 v1 v2 v3 h4 h5 h6 h7
theorem xEEEEEA {T0:Sort _} {T1:Sort _} {T2:Sort _} {T3:Sort _} {T4:Sort _} {p0:T0 -> T1 -> T2 -> T3 -> T4 -> Prop} {p1:T0 -> T1 -> T2 -> T3 -> T4 -> Prop} {Q:Prop} (h:∃ v0,∃ v1,∃ v2,∃ v3,∃ v4,p0 v0 v1 v2 v3 v4 /\ p1 v0 v1 v2 v3 v4) (k:∀ v0,∀ v1,∀ v2,∀ v3,∀ v4,p0 v0 v1 v2 v3 v4 -> p1 v0 v1 v2 v3 v4 -> Q):Q:=by
 obtain ⟨v0,v1,v2,v3,v4,h5,h6⟩:=h
 exact k v0 v1 v2 v3 v4 h5 h6
theorem xEEEEEEA {T0:Sort _} {T1:Sort _} {T2:Sort _} {T3:Sort _} {T4:Sort _} {T5:Sort _} {p0:T0 -> T1 -> T2 -> T3 -> T4 -> T5 -> Prop} {p1:T0 -> T1 -> T2 -> T3 -> T4 -> T5 -> Prop} {Q:Prop} (h:∃ v0,∃ v1,∃ v2,∃ v3,∃ v4,∃ v5,p0 v0 v1 v2 v3 v4 v5 /\ p1 v0 v1 v2 v3 v4 v5) (k:∀ v0,∀ v1,∀ v2,∀ v3,∀ v4,∀ v5,p0 v0 v1 v2 v3 v4 v5 -> p1 v0 v1 v2 v3 v4 v5 -> Q):Q:=by
 obtain ⟨v0,v1,v2,v3,v4,v5,h6,h7⟩:=h
 exact k v0 v1 v2 v3 v4 v5 h6 h7
theorem xEEEEEEEA {T0:Sort _} {T1:Sort _} {T2:Sort _} {T3:Sort _} {T4:Sort _} {T5:Sort _} {T6:Sort _} {p0:T0 -> T1 -> T2 -> T3 -> T4 -> T5 -> T6 -> Prop} {p1:T0 -> T1 -> T2 -> T3 -> T4 -> T5 -> T6 -> Prop} {Q:Prop} (h:∃ v0,∃ v1,∃ v2,∃ v3,∃ v4,∃ v5,∃ v6,p0 v0 v1 v2 v3 v4 v5 v6 /\ p1 v0 v1 v2 v3 v4 v5 v6) (k:∀ v0,∀ v1,∀ v2,∀ v3,∀ v4,∀ v5,∀ v6,p0 v0 v1 v2 v3 v4 v5 v6 -> p1 v0 v1 v2 v3 v4 v5 v6 -> Q):Q:=by
 obtain ⟨v0,v1,v2,v3,v4,v5,v6,h7,h8⟩:=h
 exact k v0 v1 v2 v3 v4 v5 v6 h7 h8
theorem xEEEEEEEEEAAAA {T0:Sort _} {T1:Sort _} {T2:Sort _} {T3:Sort _} {T4:Sort _} {T5:Sort _} {T6:Sort _} {T7:Sort _} {T8:Sort _} {p0:T0 -> T1 -> T2 -> T3 -> T4 -> T5 -> T6 -> T7 -> T8 -> Prop} {p1:T0 -> T1 -> T2 -> T3 -> T4 -> T5 -> T6 -> T7 -> T8 -> Prop} {p2:T0 -> T1 -> T2 -> T3 -> T4 -> T5 -> T6 -> T7 -> T8 -> Prop} {p3:T0 -> T1 -> T2 -> T3 -> T4 -> T5 -> T6 -> T7 -> T8 -> Prop} {p4:T0 -> T1 -> T2 -> T3 -> T4 -> T5 -> T6 -> T7 -> T8 -> Prop} {Q:Prop} (h:∃ v0,∃ v1,∃ v2,∃ v3,∃ v4,∃ v5,∃ v6,∃ v7,∃ v8,p0 v0 v1 v2 v3 v4 v5 v6 v7 v8 /\ p1 v0 v1 v2 v3 v4 v5 v6 v7 v8 /\ p2 v0 v1 v2 v3 v4 v5 v6 v7 v8 /\ p3 v0 v1 v2 v3 v4 v5 v6 v7 v8 /\ p4 v0 v1 v2 v3 v4 v5 v6 v7 v8) (k:∀ v0,∀ v1,∀ v2,∀ v3,∀ v4,∀ v5,∀ v6,∀ v7,∀ v8,p0 v0 v1 v2 v3 v4 v5 v6 v7 v8 -> p1 v0 v1 v2 v3 v4 v5 v6 v7 v8 -> p2 v0 v1 v2 v3 v4 v5 v6 v7 v8 -> p3 v0 v1 v2 v3 v4 v5 v6 v7 v8 -> p4 v0 v1 v2 v3 v4 v5 v6 v7 v8 -> Q):Q:=by
 obtain ⟨v0,v1,v2,v3,v4,v5,v6,v7,v8,h9,h10,h11,h12,h13⟩:=h
 exact k v0 v1 v2 v3 v4 v5 v6 v7 v8 h9 h10 h11 h12 h13
theorem xAAAEEEEAA {T0:Sort _} {T1:Sort _} {T2:Sort _} {T3:Sort _} {p0:Prop} {p1:Prop} {p2:Prop} {p3:T0 -> T1 -> T2 -> T3 -> Prop} {p4:T0 -> T1 -> T2 -> T3 -> Prop} {p5:T0 -> T1 -> T2 -> T3 -> Prop} {Q:Prop} (h:p0 /\ p1 /\ p2 /\ ∃ v0,∃ v1,∃ v2,∃ v3,p3 v0 v1 v2 v3 /\ p4 v0 v1 v2 v3 /\ p5 v0 v1 v2 v3) (k:p0 -> p1 -> p2 -> ∀ v0,∀ v1,∀ v2,∀ v3,p3 v0 v1 v2 v3 -> p4 v0 v1 v2 v3 -> p5 v0 v1 v2 v3 -> Q):Q:=by
 obtain ⟨h0,h1,h2,v0,v1,v2,v3,h7,h8,h9⟩:=h
 exact k h0 h1 h2 v0 v1 v2 v3 h7 h8 h9
theorem xAE {T0:Sort _} {p0:Prop} {p1:T0 -> Prop} {Q:Prop} (h:p0 /\ ∃ v0,p1 v0) (k:p0 -> ∀ v0,p1 v0 -> Q):Q:=by
 obtain ⟨h0,v0,h2⟩:=h
 exact k h0 v0 h2
theorem xEAAA {T0:Sort _} {p0:T0 -> Prop} {p1:T0 -> Prop} {p2:T0 -> Prop} {p3:T0 -> Prop} {Q:Prop} (h:∃ v0,p0 v0 /\ p1 v0 /\ p2 v0 /\ p3 v0) (k:∀ v0,p0 v0 -> p1 v0 -> p2 v0 -> p3 v0 -> Q):Q:=by
 obtain ⟨v0,h1,h2,h3,h4⟩:=h
 exact k v0 h1 h2 h3 h4
theorem xEAAAA {T0:Sort _} {p0:T0 -> Prop} {p1:T0 -> Prop} {p2:T0 -> Prop} {p3:T0 -> Prop} {p4:T0 -> Prop} {Q:Prop} (h:∃ v0,p0 v0 /\ p1 v0 /\ p2 v0 /\ p3 v0 /\ p4 v0) (k:∀ v0,p0 v0 -> p1 v0 -> p2 v0 -> p3 v0 -> p4 v0 -> Q):Q:=by
 obtain ⟨v0,h1,h2,h3,h4,h5⟩:=h
 exact k v0 h1 h2 h3 h4 h5
theorem xEAEA {T0:Sort _} {T1:Sort _} {p0:T0 -> Prop} {p1:T0 -> T1 -> Prop} {p2:T0 -> T1 -> Prop} {Q:Prop} (h:∃ v0,p0 v0 /\ ∃ v1,p1 v0 v1 /\ p2 v0 v1) (k:∀ v0,p0 v0 -> ∀ v1,p1 v0 v1 -> p2 v0 v1 -> Q):Q:=by
 obtain ⟨v0,h1,v1,h3,h4⟩:=h
 exact k v0 h1 v1 h3 h4
theorem xEEAAA {T0:Sort _} {T1:Sort _} {p0:T0 -> T1 -> Prop} {p1:T0 -> T1 -> Prop} {p2:T0 -> T1 -> Prop} {p3:T0 -> T1 -> Prop} {Q:Prop} (h:∃ v0,∃ v1,p0 v0 v1 /\ p1 v0 v1 /\ p2 v0 v1 /\ p3 v0 v1) (k:∀ v0,∀ v1,p0 v0 v1 -> p1 v0 v1 -> p2 v0 v1 -> p3 v0 v1 -> Q):Q:=by
 obtain ⟨v0,v1,h2,h3,h4,h5⟩:=h
 exact k v0 v1 h2 h3 h4 h5
theorem xEEAAAAA {T0:Sort _} {T1:Sort _} {p0:T0 -> T1 -> Prop} {p1:T0 -> T1 -> Prop} {p2:T0 -> T1 -> Prop} {p3:T0 -> T1 -> Prop} {p4:T0 -> T1 -> Prop} {p5:T0 -> T1 -> Prop} {Q:Prop} (h:∃ v0,∃ v1,p0 v0 v1 /\ p1 v0 v1 /\ p2 v0 v1 /\ p3 v0 v1 /\ p4 v0 v1 /\ p5 v0 v1) (k:∀ v0,∀ v1,p0 v0 v1 -> p1 v0 v1 -> p2 v0 v1 -> p3 v0 v1 -> p4 v0 v1 -> p5 v0 v1 -> Q):Q:=by
 obtain ⟨v0,v1,h2,h3,h4,h5,h6,h7⟩:=h
 exact k v0 v1 h2 h3 h4 h5 h6 h7
theorem xEEAAAAAA {T0:Sort _} {T1:Sort _} {p0:T0 -> T1 -> Prop} {p1:T0 -> T1 -> Prop} {p2:T0 -> T1 -> Prop} {p3:T0 -> T1 -> Prop} {p4:T0 -> T1 -> Prop} {p5:T0 -> T1 -> Prop} {p6:T0 -> T1 -> Prop} {Q:Prop} (h:∃ v0,∃ v1,p0 v0 v1 /\ p1 v0 v1 /\ p2 v0 v1 /\ p3 v0 v1 /\ p4 v0 v1 /\ p5 v0 v1 /\ p6 v0 v1) (k:∀ v0,∀ v1,p0 v0 v1 -> p1 v0 v1 -> p2 v0 v1 -> p3 v0 v1 -> p4 v0 v1 -> p5 v0 v1 -> p6 v0 v1 -> Q):Q:=by
 obtain ⟨v0,v1,h2,h3,h4,h5,h6,h7,h8⟩:=h
 exact k v0 v1 h2 h3 h4 h5 h6 h7 h8
theorem xEEAAEAAA {T0:Sort _} {T1:Sort _} {T2:Sort _} {p0:T0 -> T1 -> Prop} {p1:T0 -> T1 -> Prop} {p2:T0 -> T1 -> T2 -> Prop} {p3:T0 -> T1 -> T2 -> Prop} {p4:T0 -> T1 -> T2 -> Prop} {p5:T0 -> T1 -> T2 -> Prop} {Q:Prop} (h:∃ v0,∃ v1,p0 v0 v1 /\ p1 v0 v1 /\ ∃ v2,p2 v0 v1 v2 /\ p3 v0 v1 v2 /\ p4 v0 v1 v2 /\ p5 v0 v1 v2) (k:∀ v0,∀ v1,p0 v0 v1 -> p1 v0 v1 -> ∀ v2,p2 v0 v1 v2 -> p3 v0 v1 v2 -> p4 v0 v1 v2 -> p5 v0 v1 v2 -> Q):Q:=by
 obtain ⟨v0,v1,h2,h3,v2,h5,h6,h7,h8⟩:=h
 exact k v0 v1 h2 h3 v2 h5 h6 h7 h8
theorem xEEEA {T0:Sort _} {T1:Sort _} {T2:Sort _} {p0:T0 -> T1 -> T2 -> Prop} {p1:T0 -> T1 -> T2 -> Prop} {Q:Prop} (h:∃ v0,∃ v1,∃ v2,p0 v0 v1 v2 /\ p1 v0 v1 v2) (k:∀ v0,∀ v1,∀ v2,p0 v0 v1 v2 -> p1 v0 v1 v2 -> Q):Q:=by
 obtain ⟨v0,v1,v2,h3,h4⟩:=h
 exact k v0 v1 v2 h3 h4
theorem xEEEE {T0:Sort _} {T1:Sort _} {T2:Sort _} {T3:Sort _} {p0:T0 -> T1 -> T2 -> T3 -> Prop} {Q:Prop} (h:∃ v0,∃ v1,∃ v2,∃ v3,p0 v0 v1 v2 v3) (k:∀ v0,∀ v1,∀ v2,∀ v3,p0 v0 v1 v2 v3 -> Q):Q:=by
 obtain ⟨v0,v1,v2,v3,h4⟩:=h
 exact k v0 v1 v2 v3 h4
theorem xEEEEE {T0:Sort _} {T1:Sort _} {T2:Sort _} {T3:Sort _} {T4:Sort _} {p0:T0 -> T1 -> T2 -> T3 -> T4 -> Prop} {Q:Prop} (h:∃ v0,∃ v1,∃ v2,∃ v3,∃ v4,p0 v0 v1 v2 v3 v4) (k:∀ v0,∀ v1,∀ v2,∀ v3,∀ v4,p0 v0 v1 v2 v3 v4 -> Q):Q:=by
 obtain ⟨v0,v1,v2,v3,v4,h5⟩:=h
 exact k v0 v1 v2 v3 v4 h5
theorem xEEEEEAAA {T0:Sort _} {T1:Sort _} {T2:Sort _} {T3:Sort _} {T4:Sort _} {p0:T0 -> T1 -> T2 -> T3 -> T4 -> Prop} {p1:T0 -> T1 -> T2 -> T3 -> T4 -> Prop} {p2:T0 -> T1 -> T2 -> T3 -> T4 -> Prop} {p3:T0 -> T1 -> T2 -> T3 -> T4 -> Prop} {Q:Prop} (h:∃ v0,∃ v1,∃ v2,∃ v3,∃ v4,p0 v0 v1 v2 v3 v4 /\ p1 v0 v1 v2 v3 v4 /\ p2 v0 v1 v2 v3 v4 /\ p3 v0 v1 v2 v3 v4) (k:∀ v0,∀ v1,∀ v2,∀ v3,∀ v4,p0 v0 v1 v2 v3 v4 -> p1 v0 v1 v2 v3 v4 -> p2 v0 v1 v2 v3 v4 -> p3 v0 v1 v2 v3 v4 -> Q):Q:=by
 obtain ⟨v0,v1,v2,v3,v4,h5,h6,h7,h8⟩:=h
 exact k v0 v1 v2 v3 v4 h5 h6 h7 h8
theorem xEEEEEAAAAA {T0:Sort _} {T1:Sort _} {T2:Sort _} {T3:Sort _} {T4:Sort _} {p0:T0 -> T1 -> T2 -> T3 -> T4 -> Prop} {p1:T0 -> T1 -> T2 -> T3 -> T4 -> Prop} {p2:T0 -> T1 -> T2 -> T3 -> T4 -> Prop} {p3:T0 -> T1 -> T2 -> T3 -> T4 -> Prop} {p4:T0 -> T1 -> T2 -> T3 -> T4 -> Prop} {p5:T0 -> T1 -> T2 -> T3 -> T4 -> Prop} {Q:Prop} (h:∃ v0,∃ v1,∃ v2,∃ v3,∃ v4,p0 v0 v1 v2 v3 v4 /\ p1 v0 v1 v2 v3 v4 /\ p2 v0 v1 v2 v3 v4 /\ p3 v0 v1 v2 v3 v4 /\ p4 v0 v1 v2 v3 v4 /\ p5 v0 v1 v2 v3 v4) (k:∀ v0,∀ v1,∀ v2,∀ v3,∀ v4,p0 v0 v1 v2 v3 v4 -> p1 v0 v1 v2 v3 v4 -> p2 v0 v1 v2 v3 v4 -> p3 v0 v1 v2 v3 v4 -> p4 v0 v1 v2 v3 v4 -> p5 v0 v1 v2 v3 v4 -> Q):Q:=by
 obtain ⟨v0,v1,v2,v3,v4,h5,h6,h7,h8,h9,h10⟩:=h
 exact k v0 v1 v2 v3 v4 h5 h6 h7 h8 h9 h10
theorem xEEEEEEEAA {T0:Sort _} {T1:Sort _} {T2:Sort _} {T3:Sort _} {T4:Sort _} {T5:Sort _} {T6:Sort _} {p0:T0 -> T1 -> T2 -> T3 -> T4 -> T5 -> T6 -> Prop} {p1:T0 -> T1 -> T2 -> T3 -> T4 -> T5 -> T6 -> Prop} {p2:T0 -> T1 -> T2 -> T3 -> T4 -> T5 -> T6 -> Prop} {Q:Prop} (h:∃ v0,∃ v1,∃ v2,∃ v3,∃ v4,∃ v5,∃ v6,p0 v0 v1 v2 v3 v4 v5 v6 /\ p1 v0 v1 v2 v3 v4 v5 v6 /\ p2 v0 v1 v2 v3 v4 v5 v6) (k:∀ v0,∀ v1,∀ v2,∀ v3,∀ v4,∀ v5,∀ v6,p0 v0 v1 v2 v3 v4 v5 v6 -> p1 v0 v1 v2 v3 v4 v5 v6 -> p2 v0 v1 v2 v3 v4 v5 v6 -> Q):Q:=by
 obtain ⟨v0,v1,v2,v3,v4,v5,v6,h7,h8,h9⟩:=h
 exact k v0 v1 v2 v3 v4 v5 v6 h7 h8 h9
theorem xEEEEEEEEEAAAAAAAA {T0:Sort _} {T1:Sort _} {T2:Sort _} {T3:Sort _} {T4:Sort _} {T5:Sort _} {T6:Sort _} {T7:Sort _} {T8:Sort _} {p0:T0 -> T1 -> T2 -> T3 -> T4 -> T5 -> T6 -> T7 -> T8 -> Prop} {p1:T0 -> T1 -> T2 -> T3 -> T4 -> T5 -> T6 -> T7 -> T8 -> Prop} {p2:T0 -> T1 -> T2 -> T3 -> T4 -> T5 -> T6 -> T7 -> T8 -> Prop} {p3:T0 -> T1 -> T2 -> T3 -> T4 -> T5 -> T6 -> T7 -> T8 -> Prop} {p4:T0 -> T1 -> T2 -> T3 -> T4 -> T5 -> T6 -> T7 -> T8 -> Prop} {p5:T0 -> T1 -> T2 -> T3 -> T4 -> T5 -> T6 -> T7 -> T8 -> Prop} {p6:T0 -> T1 -> T2 -> T3 -> T4 -> T5 -> T6 -> T7 -> T8 -> Prop} {p7:T0 -> T1 -> T2 -> T3 -> T4 -> T5 -> T6 -> T7 -> T8 -> Prop} {p8:T0 -> T1 -> T2 -> T3 -> T4 -> T5 -> T6 -> T7 -> T8 -> Prop} {Q:Prop} (h:∃ v0,∃ v1,∃ v2,∃ v3,∃ v4,∃ v5,∃ v6,∃ v7,∃ v8,p0 v0 v1 v2 v3 v4 v5 v6 v7 v8 /\ p1 v0 v1 v2 v3 v4 v5 v6 v7 v8 /\ p2 v0 v1 v2 v3 v4 v5 v6 v7 v8 /\ p3 v0 v1 v2 v3 v4 v5 v6 v7 v8 /\ p4 v0 v1 v2 v3 v4 v5 v6 v7 v8 /\ p5 v0 v1 v2 v3 v4 v5 v6 v7 v8 /\ p6 v0 v1 v2 v3 v4 v5 v6 v7 v8 /\ p7 v0 v1 v2 v3 v4 v5 v6 v7 v8 /\ p8 v0 v1 v2 v3 v4 v5 v6 v7 v8) (k:∀ v0,∀ v1,∀ v2,∀ v3,∀ v4,∀ v5,∀ v6,∀ v7,∀ v8,p0 v0 v1 v2 v3 v4 v5 v6 v7 v8 -> p1 v0 v1 v2 v3 v4 v5 v6 v7 v8 -> p2 v0 v1 v2 v3 v4 v5 v6 v7 v8 -> p3 v0 v1 v2 v3 v4 v5 v6 v7 v8 -> p4 v0 v1 v2 v3 v4 v5 v6 v7 v8 -> p5 v0 v1 v2 v3 v4 v5 v6 v7 v8 -> p6 v0 v1 v2 v3 v4 v5 v6 v7 v8 -> p7 v0 v1 v2 v3 v4 v5 v6 v7 v8 -> p8 v0 v1 v2 v3 v4 v5 v6 v7 v8 -> Q):Q:=by
 obtain ⟨v0,v1,v2,v3,v4,v5,v6,v7,v8,h9,h10,h11,h12,h13,h14,h15,h16,h17⟩:=h
 exact k v0 v1 v2 v3 v4 v5 v6 v7 v8 h9 h10 h11 h12 h13 h14 h15 h16 h17
theorem sub_pred {a b m:Nat} (h:b - a = m + 1):b - (a + 1) = m:=by rw [Nat.sub_succ,h]; rfl
theorem sub_tot {s n t:Nat} (h:s <= n) (q:t < s + (n - s)):t < n:=by rwa [Nat.add_sub_cancel' h] at q
theorem sub_lt_succ {n q hd k:Nat} (h:n - q < k + 1) (a:q < hd) (b:hd <= n):n - hd < k:=Nat.lt_of_lt_of_le (Nat.sub_lt_sub_left (Nat.lt_of_lt_of_le a b) a) (Nat.le_of_lt_succ h)
theorem sub_next {n i:Nat} (h:i < n):n - (i + 1) < n - i:=Nat.sub_lt_sub_left h (Nat.lt_succ_self i)
theorem sub_le_of {n i k:Nat} (h:n <= k):n - i <= k:=Nat.le_trans (Nat.sub_le _ _) h
theorem step_size {S p z:Nat} (h:p + 2 + z <= S):S - p = S - (p + 2 + z) + 2 + z:=by
 obtain ⟨r,rfl⟩:=Nat.le.dest h
 rw [Nat.add_sub_cancel_left,Nat.add_assoc,Nat.add_assoc,Nat.add_sub_cancel_left]
 (simp +arith)
theorem ar1 {x r z n:Nat} (h:x < n + 1) (e:x = r + 2 + z):r < n:=by lia
theorem ar2 {w x r z:Nat} (h:w + 2 * x + 6 <= 16777216) (e:x = r + 2 + z):w + 2 + 1 + 1 + 2 * r + 6 <= 16777216:=by lia
theorem ar3 {f x r z N:Nat} (h:f + x + 3 <= N) (e:x = r + 2 + z):f + 1 + 1 + r + 3 <= N:=by lia
theorem ar4 {x r z:Nat} (e:x = r + 2 + z):1 + (1 + 1 + 1) + (12 * r + 12) <= 12 * x + 12:=by lia
theorem ar5 {x r z:Nat} (e:x = r + 2 + z):2 + 1 + (12 * r + 12) + 1 + z * 7 + 5 <= 12 * x + 12:=by lia
end Mine
end
section
namespace Mine
open PySem PySem.Sre PySem.Sre.M
noncomputable def stepN:Nat -> M -> M
 | 0,m => m
 | n + 1,m => stepN n (M.step m)
theorem stepN_add (a b:Nat) (m:M):stepN (a + b) m = stepN b (stepN a m):=by
 induction a generalizing m with
 | zero => simp [stepN]
 | succ n ih => rw [Nat.add_right_comm]; simp only [stepN]; exact ih _
theorem step_out {m:M} (h:m.outcome.isSome = true):M.step m = m:=by
 unfold M.step; rw [if_pos h]
theorem stepN_out {m:M} (h:m.outcome.isSome = true) (n:Nat):stepN n m = m:=by
 induction n with
 | zero => rfl
 | succ n ih => simp only [stepN]; rw [step_out h,ih]
theorem runFor_eq (n:Nat) (m:M):M.runFor n m = stepN n m:=by
 induction n generalizing m with
 | zero => rfl
 | succ n ih =>
  dsimp only [M.runFor,stepN]
  split
  ·rename_i h; rw [step_out h,stepN_out h]
  ·exact ih _
noncomputable def G (n:Nat) (a b:M):Prop:=∀ sn,∃ sn' k,k <= n /\ stepN k { a with seen:=sn } = { b with seen:=sn' }
theorem G.trans {i j:Nat} {a b c:M} (x:G i a b) (y:G j b c):G (i + j) a c:=fun sn => by
 refine xEEA (x sn) fun s1 k hk e => ?_
 refine xEEA (y s1) fun s2 l hl e' => ?_
 exact ⟨s2,k + l,Nat.add_le_add hk hl,by rw [stepN_add,e,e']⟩
theorem G.le {i j:Nat} {a b:M} (x:G i a b) (h:i <= j):G j a b:=fun sn => by
 refine xEEA (x sn) fun s1 k hk e => ?_
 exact ⟨s1,k,Nat.le_trans hk h,e⟩
theorem G.one {a b:M} (h:∀ sn,∃ sn',M.step { a with seen:=sn } = { b with seen:=sn' }):G 1 a b:=fun sn => by
 obtain ⟨s1,e⟩:=h sn
 exact ⟨s1,1,Nat.le_refl _,e⟩
structure Ready (a:M):Prop where
 ans:a.answer = none
 out:a.outcome = none
 pc:a.pc < a.code.size
theorem step_ready {a:M} (r:Ready a) (sn:Seen):M.step { a with seen:=sn } = M.exec { a with seen:=sn }:=by
 unfold M.step
 rw [if_neg (by rw [r.out]; decide)]
 simp only [r.ans]
 rw [if_pos r.pc]
theorem g_say {a:M} {b:Bool} (r:Ready a) (h:∀ sn,∃ sn',M.exec { a with seen:=sn } = { a.say b with seen:=sn' }):G 1 a (a.say b):=
 G.one fun sn => by rw [step_ready r]; exact h sn
noncomputable def Acc (code:Array Nat) (i c:Nat) (b:Bool):Prop:=∀ sn,∃ sn',accepts code i c sn = .ok (b,sn')
noncomputable def isOne:Op -> Bool
 | .ANY | .LITERAL | .IN => true
 | _ => false
theorem exec_one {a:M} {op:Op} (hop:ops[a.word 0]? = some op) (h1:isOne op = true) (sn:Seen) :
  M.exec { a with seen:=sn } =
   if a.pos ≥ a.lim then { a.say false with seen:=sn.add (a.word 0) } else
   match accepts a.code a.pc (a.text.getD a.pos 0) (sn.add (a.word 0)) with
   | .error why => { a.stick why with seen:=sn.add (a.word 0) }
   | .ok (false,s') => { a.say false with seen:=s' }
   | .ok (true,s') => { a with seen:=s',pc:=a.pc + itemWidth a.code a.pc,pos:=a.pos + 1 }:=by
 have e:M.word { a with seen:=sn } 0 = a.word 0:=rfl
 have h3:op = .ANY \/ op = .LITERAL \/ op = .IN:=by cases op <;> first | exact .inl rfl | exact .inr (.inl rfl) | exact .inr (.inr rfl) | exact (Bool.false_ne_true h1).elim
 rcases h3 with rfl | rfl | rfl <;> (unfold M.exec; rw [e,hop]; rfl)
theorem g_one_no {a:M} {op:Op} (r:Ready a) (hop:ops[a.word 0]? = some op) (h1:isOne op = true)
  (h:a.pos ≥ a.lim \/ Acc a.code a.pc (a.text.getD a.pos 0) false):G 1 a (a.say false):=by
 refine g_say r fun sn => ?_
 rw [exec_one hop h1]
 by_cases hp:a.pos ≥ a.lim
 ·rw [if_pos hp]; exact ⟨_,rfl⟩
 ·rw [if_neg hp]
  rcases h with h | h
  ·exact absurd h hp
  ·obtain ⟨s',e⟩:=h (sn.add (a.word 0))
   rw [e]; exact ⟨s',rfl⟩
theorem g_one_yes {a:M} {op:Op} (r:Ready a) (hop:ops[a.word 0]? = some op) (h1:isOne op = true)
  (hp:a.pos < a.lim) (h:Acc a.code a.pc (a.text.getD a.pos 0) true):G 1 a { a with pc:=a.pc + itemWidth a.code a.pc,pos:=a.pos + 1 }:=by
 refine G.one fun sn => ?_
 rw [step_ready r,exec_one hop h1,if_neg (Nat.not_le.mpr hp)]
 obtain ⟨s',e⟩:=h (sn.add (a.word 0))
 rw [e]; exact ⟨s',rfl⟩
theorem g_at {a:M} {b:Bool} (r:Ready a) (hop:ops[a.word 0]? = some .AT) (h:a.isAt (a.word 1) = .ok b) :
  G 1 a (if b then { a with pc:=a.pc + 2 } else a.say false):=by
 refine G.one fun sn => ?_
 rw [step_ready r]
 have e:M.word { a with seen:=sn } 0 = a.word 0:=rfl
 have e1:M.word { a with seen:=sn } 1 = a.word 1:=rfl
 have e2:∀ sn,M.isAt { a with seen:=sn } (a.word 1) = .ok b:=fun _ => h
 have e3:M.word { a with seen:=sn.add (a.word 0) } 1 = a.word 1:=rfl
 unfold M.exec
 simp only [e,hop,e3,e2]
 cases b
 ·exact ⟨_,rfl⟩
 ·exact ⟨_,rfl⟩
theorem g_mark {a:M} (r:Ready a) (hop:ops[a.word 0]? = some .MARK):G 1 a (a.mark (a.word 1)):=by
 refine G.one fun sn => ?_
 rw [step_ready r]
 have e:M.word { a with seen:=sn } 0 = a.word 0:=rfl
 unfold M.exec
 simp only [e,hop]
 exact ⟨_,rfl⟩
theorem g_success {a:M} (r:Ready a) (hop:ops[a.word 0]? = some .SUCCESS)
  (h:(a.outermost && ((a.wholeText && a.pos != a.lim) || (a.mustAdvance && a.pos == a.start))) = false):G 1 a ({ a with handed:=a.pos }.say true):=by
 refine G.one fun sn => ?_
 rw [step_ready r]
 have e:M.word { a with seen:=sn } 0 = a.word 0:=rfl
 unfold M.exec
 simp only [e,hop,h]
 exact ⟨_,rfl⟩
theorem g_success_no {a:M} (r:Ready a) (hop:ops[a.word 0]? = some .SUCCESS)
  (h:(a.outermost && ((a.wholeText && a.pos != a.lim) || (a.mustAdvance && a.pos == a.start))) = true):G 1 a (a.say false):=by
 refine G.one fun sn => ?_
 rw [step_ready r]
 have e:M.word { a with seen:=sn } 0 = a.word 0:=rfl
 unfold M.exec
 simp only [e,hop,h]
 exact ⟨_,rfl⟩
noncomputable def spanLen (P:Nat -> Bool) (text:Array Nat):Nat -> Nat -> Nat
 | 0,_ => 0
 | n + 1,p => if P (text.getD p 0) then spanLen P text n (p + 1) + 1 else 0
theorem spanLen_succ {P:Nat -> Bool} {text:Array Nat} {n p:Nat}:spanLen P text (n + 1) p = if P (text.getD p 0) then spanLen P text n (p + 1) + 1 else 0:=rfl
theorem spanLen_le (P:Nat -> Bool) (text:Array Nat):∀ n p,spanLen P text n p <= n
 | 0,_ => Nat.le_refl _
 | n + 1,p => by
  rw [spanLen_succ]
  split
  ·exact Nat.succ_le_succ (spanLen_le P text n (p + 1))
  ·exact Nat.zero_le _
theorem run_eq {code text:Array Nat} {i:Nat} {P:Nat -> Bool} (hP:∀ c,Acc code i c (P c)) :
  ∀ (n p f:Nat) (sn:Seen),∃ sn',Sre.run code text i n p f sn = .ok (f + spanLen P text n p,sn')
 | 0,_,f,sn => ⟨sn,rfl⟩
 | n + 1,p,f,sn => by
  obtain ⟨s1,e⟩:=hP (text.getD p 0) sn
  show ∃ sn',(accepts code i (text.getD p 0) sn >>= fun q => if q.1 = true then Sre.run code text i n (p + 1) (f + 1) q.2 else pure (f,q.2)) = _
  rw [e]
  show ∃ sn',(if P (text.getD p 0) = true then Sre.run code text i n (p + 1) (f + 1) s1 else pure (f,s1)) = _
  rw [spanLen_succ]
  cases h:P (text.getD p 0)
  ·exact ⟨s1,rfl⟩
  ·obtain ⟨s2,e2⟩:=run_eq hP n (p + 1) (f + 1) s1
   refine ⟨s2,?_⟩
   simp only [if_true]
   rw [e2,Nat.add_assoc,Nat.add_comm 1]
noncomputable def att (m:M) (f:Sre.Frame) (target «from»:Nat) (om:Bool):M:=
 {m with frames:=f :: m.frames,weight:=m.weight + 1 + f.kept.marks.size,pc:=target,pos:=«from»,handed:=«from»,outermost:=om }
theorem attempt_eq {m:M} {f:Sre.Frame} {t p:Nat} {om:Bool} (h:m.weight + 1 + f.kept.marks.size <= 16777216):m.attempt f t p om = att m f t p om:=by
 unfold M.attempt
 rw [if_neg (Nat.not_lt.mpr h)]; rfl
noncomputable def tailOf (a:M) (c:Nat) (kept:Sre.Kept):M:=
 att { a with pos:=a.pos + c } { M.frame { a with pos:=a.pos + c } .giveBack with count:=c,kept } (a.pc + 1 + a.word 1) (a.pos + c) a.outermost
theorem g_rep {a:M} {P:Nat -> Bool} (r:Ready a) (hop:ops[a.word 0]? = some .REPEAT_ONE) (hP:∀ c,Acc a.code (a.pc + 4) c (P c))
  (hm:a.word 3 = 4294967295) (hpos:a.pos <= a.lim) (hlim:a.lim <= 16777216)
  (hw:a.weight + 1 + (a.keep a.inner.isSome).marks.size <= 16777216)
  (hl:a.word 2 <= spanLen P a.text (a.lim - a.pos) a.pos) :
  G 1 a (tailOf a (spanLen P a.text (a.lim - a.pos) a.pos) (a.keep a.inner.isSome)):=by
 refine G.one fun sn => ?_
 rw [step_ready r]
 have e:M.word { a with seen:=sn } 0 = a.word 0:=rfl
 have es:∀ k s',M.word { a with seen:=s' } k = a.word k:=fun _ _ => rfl
 have hle:=spanLen_le P a.text (a.lim - a.pos) a.pos
 have room:((a.lim:Int) - a.pos).toNat = a.lim - a.pos:=Int.toNat_sub _ _
 have hmin:min 4294967295 (a.lim - a.pos) = a.lim - a.pos:=by lia
 obtain ⟨s2,e2⟩:=run_eq (text:=a.text) hP (a.lim - a.pos) a.pos 0 ((sn.add (a.word 0)).add (a.word 4))
 unfold M.exec
 simp only [e,hop,es,hm,room,hmin,e2,Nat.zero_add]
 have h1:¬ ((a.word 2:Int) > (a.lim:Int) - a.pos):=by lia
 rw [if_neg h1]
 simp only [Bool.false_eq_true,if_false,hmin,e2,Nat.zero_add]
 rw [if_neg (Nat.not_lt.mpr hl)]
 refine ⟨s2,?_⟩
 unfold M.afterRun
 exact attempt_eq hw
theorem g_rep_no {a:M} {P:Nat -> Bool} (r:Ready a) (hop:ops[a.word 0]? = some .REPEAT_ONE) (hP:∀ c,Acc a.code (a.pc + 4) c (P c))
  (hm:a.word 3 = 4294967295) (hpos:a.pos <= a.lim) (hlim:a.lim <= 16777216)
  (hl:spanLen P a.text (a.lim - a.pos) a.pos < a.word 2) :
  ∃ p,G 1 a ({ a with pos:=p }.say false):=by
 have hle:=spanLen_le P a.text (a.lim - a.pos) a.pos
 have room:((a.lim:Int) - a.pos).toNat = a.lim - a.pos:=Int.toNat_sub _ _
 have hmin:min 4294967295 (a.lim - a.pos) = a.lim - a.pos:=by lia
 refine ⟨a.pos,G.one fun sn => ?_⟩
 rw [step_ready r]
 have e:M.word { a with seen:=sn } 0 = a.word 0:=rfl
 have es:∀ k s',M.word { a with seen:=s' } k = a.word k:=fun _ _ => rfl
 unfold M.exec
 simp only [e,hop,es,hm,room,hmin]
 by_cases h1:((a.word 2:Int) > (a.lim:Int) - a.pos)
 ·rw [if_pos h1]; exact ⟨_,rfl⟩
 ·rw [if_neg h1]
  obtain ⟨s2,e2⟩:=run_eq (text:=a.text) hP (a.lim - a.pos) a.pos 0 ((sn.add (a.word 0)).add (a.word 4))
  simp only [Bool.false_eq_true,if_false,hmin,e2,Nat.zero_add]
  rw [if_pos hl]
  exact ⟨s2,rfl⟩
noncomputable def noOf (a:M) (pc pos handed:Nat) (om:Bool) (marks:Array (Option Nat)) (lm li:Int):M:=
 {a with answer:=some false,pc,pos,handed,outermost:=om,marks,lastmark:=lm,lastindex:=li }
noncomputable def Fails (k:Nat) (a:M):Prop:=∃ pc pos handed om marks lm li,marks.size = a.marks.size /\ G k a (noOf a pc pos handed om marks lm li)
theorem Fails.le {k l:Nat} {a:M} (h:Fails k a) (hl:k <= l):Fails l a:=by
 refine xEEEEEEEA (h) fun pc pos hd om mk lm li e g => ?_
 exact ⟨pc,pos,hd,om,mk,lm,li,e,g.le hl⟩
theorem Fails.of_G {i k:Nat} {a:M} {pc pos handed:Nat} {om:Bool} {marks:Array (Option Nat)} {lm li:Int} (hm:marks.size = a.marks.size)
  (g:G i a { a with pc,pos,handed,outermost:=om,marks,lastmark:=lm,lastindex:=li })
  (h:Fails k { a with pc,pos,handed,outermost:=om,marks,lastmark:=lm,lastindex:=li }):Fails (i + k) a:=by
 refine xEEEEEEEA (h) fun pc' pos' hd' om' mk' lm' li' e g' => ?_
 exact ⟨pc',pos',hd',om',mk',lm',li',e.trans hm,g.trans g'⟩
theorem Fails.now {k:Nat} {a:M} {pos:Nat} (g:G k a ({ a with pos:=pos }.say false)):Fails k a:=
 ⟨a.pc,pos,a.handed,a.outermost,a.marks,a.lastmark,a.lastindex,rfl,g⟩
noncomputable def popped (m:M) (f:Sre.Frame) (rest:List Sre.Frame):M:=
 {m with answer:=none,frames:=rest,weight:=m.weight - (1 + f.kept.marks.size),pc:=f.pc,pos:=f.pos,outermost:=f.outermost }
theorem step_pop {m:M} {f:Sre.Frame} {rest:List Sre.Frame} {b:Bool} (ho:m.outcome = none) (ha:m.answer = some b) (hf:m.frames = f :: rest) :
  M.step m = M.resume (popped m f rest) f b:=by
 unfold M.step
 rw [if_neg (by rw [ho]; decide)]
 simp only [ha,hf]
 rfl
theorem putBack_false {m:M} {k:Sre.Kept} (h:k.whole = false):m.putBack k = { m with lastmark:=k.lastmark,lastindex:=k.lastindex }:=by
 unfold M.putBack; rw [h]; rfl
theorem keep_false (m:M):m.keep false = { lastmark:=m.lastmark,lastindex:=m.lastindex,whole:=false,marks:=#[] }:=rfl
theorem g_back_more {a:M} {c:Nat} {kept:Sre.Kept} {pc pos handed:Nat} {om:Bool} {marks:Array (Option Nat)} {lm li:Int}
  (ho:a.outcome = none) (hk:kept.whole = false) (hk2:kept.marks = #[]) (hw:a.weight + 1 <= 16777216)
  (hc:a.word 2 <= c) (hans:a.answer = none) :
  G 1 (noOf (tailOf a (c + 1) kept) pc pos handed om marks lm li)
   (tailOf { a with marks,lastmark:=kept.lastmark,lastindex:=kept.lastindex,handed:=handed } c kept):=by
 refine G.one fun sn => ?_
 rw [step_pop (m:={ noOf (tailOf a (c + 1) kept) pc pos handed om marks lm li with seen:=sn }) (f:={ M.frame { a with pos:=a.pos + (c + 1) } .giveBack with count:=((c + 1:Nat):Int),kept }) (rest:=a.frames) (b:=false) ho rfl rfl]
 unfold M.resume
 simp only [putBack_false hk,M.frame]
 have h1:¬ (((c + 1:Nat):Int) - 1 < (M.word (popped { noOf (tailOf a (c + 1) kept) pc pos handed om marks lm li with seen:=sn } { M.frame { a with pos:=a.pos + (c + 1) } .giveBack with count:=((c + 1:Nat):Int),kept } a.frames) 2:Nat)):=by
  show ¬ (((c + 1:Nat):Int) - 1 < (a.word 2:Nat))
  lia
 simp only [M.frame] at h1
 rw [if_neg (by decide),if_neg h1]
 unfold M.afterRun
 rw [attempt_eq (by
  simp only [popped,noOf,tailOf,att,hk2,M.frame]
  show a.weight + 1 + 0 - (1 + 0) + 1 + 0 <= _
  (assumption))]
 refine ⟨sn,?_⟩
 have e1:((c + 1:Nat):Int) - 1 = (c:Int):=by (simp +arith)
 have e2:a.weight + 1 + 0 - (1 + 0) = a.weight:=by (simp +arith)
 have e3:a.pos + (c + 1) - 1 = a.pos + c:=by (rfl)
 simp only [popped,noOf,tailOf,att,M.frame,hk2,e1,e3,M.word,Array.size_empty,e2,hans]
theorem g_back_end {a:M} {c:Nat} {kept:Sre.Kept} {pc pos handed:Nat} {om:Bool} {marks:Array (Option Nat)} {lm li:Int}
  (ho:a.outcome = none) (hk:kept.whole = false) (hk2:kept.marks = #[])
  (hc:(c:Int) - 1 < a.word 2) :
  G 1 (noOf (tailOf a c kept) pc pos handed om marks lm li) (noOf a a.pc (a.pos + c) handed a.outermost marks kept.lastmark kept.lastindex):=by
 refine G.one fun sn => ?_
 rw [step_pop (m:={ noOf (tailOf a c kept) pc pos handed om marks lm li with seen:=sn }) (f:={ M.frame { a with pos:=a.pos + c } .giveBack with count:=(c:Int),kept }) (rest:=a.frames) (b:=false) ho rfl rfl]
 unfold M.resume
 simp only [putBack_false hk,M.frame]
 rw [if_neg (by decide)]
 have h1:((c:Int) - 1 < (M.word (popped { noOf (tailOf a c kept) pc pos handed om marks lm li with seen:=sn } { M.frame { a with pos:=a.pos + c } .giveBack with count:=(c:Int),kept } a.frames) 2:Nat)):=hc
 simp only [M.frame] at h1
 rw [if_pos h1]
 refine ⟨sn,?_⟩
 have e2:a.weight + 1 + 0 - (1 + 0) = a.weight:=by (simp +arith)
 simp only [popped,noOf,tailOf,att,M.frame,hk2,M.say,Array.size_empty,e2]
theorem fails_tails {a:M} {kept:Sre.Kept} {k:Nat} (ho:a.outcome = none) (hans:a.answer = none) (hk:kept.whole = false) (hk2:kept.marks = #[]) (hw:a.weight + 1 <= 16777216) (h2:a.word 2 = 0 \/ a.word 2 = 1)
  (hkm:kept.lastmark = a.lastmark) (hki:kept.lastindex = a.lastindex) :
  ∀ (c:Nat),a.word 2 <= c -> (∀ c' marks handed,a.word 2 <= c' -> c' <= c -> marks.size = a.marks.size -> Fails k (tailOf { a with marks,handed } c' kept)) ->
   ∀ marks handed,marks.size = a.marks.size -> ∃ pc pos handed' om marks' lm li,marks'.size = a.marks.size /\ G ((c + 1) * (k + 1)) (tailOf { a with marks,handed } c kept) (noOf { a with marks,handed } pc pos handed' om marks' lm li):=by
 intro c
 induction c with
 | zero =>
  intro hc h marks handed hm
  refine xEEEEEEEA (h 0 marks handed hc (Nat.le_refl _) hm) fun pc pos hd om mk lm li e g => ?_
  have g2:=g_back_end (a:={ a with marks,handed }) (c:=0) (kept:=kept) (pc:=pc) (pos:=pos) (handed:=hd) (om:=om) (marks:=mk) (lm:=lm) (li:=li) ho hk hk2 (by show ((0:Nat):Int) - 1 < (a.word 2:Nat); (simp +arith))
  exact ⟨_,_,_,_,_,_,_,e.trans hm,(g.trans g2).le (by (simp +arith))⟩
 | succ c ih =>
  intro hc h marks handed hm
  refine xEEEEEEEA (h (c + 1) marks handed hc (Nat.le_refl _) hm) fun pc pos hd om mk lm li e g => ?_
  by_cases hend:((c + 1:Nat):Int) - 1 < (a.word 2:Nat)
  ·have g2:=g_back_end (a:={ a with marks,handed }) (c:=c + 1) (kept:=kept) (pc:=pc) (pos:=pos) (handed:=hd) (om:=om) (marks:=mk) (lm:=lm) (li:=li) ho hk hk2 hend
   refine ⟨_,_,_,_,_,_,_,e.trans hm,(g.trans g2).le ?_⟩
   rw [Nat.succ_mul]; (exact Nat.le_add_left _ _)
  ·have hc':a.word 2 <= c:=by lia
   have g2:=g_back_more (a:={ a with marks,handed }) (c:=c) (kept:=kept) (pc:=pc) (pos:=pos) (handed:=hd) (om:=om) (marks:=mk) (lm:=lm) (li:=li) ho hk hk2 hw hc' hans
   refine xEEEEEEEA (ih hc' (fun c' m' hd'' x y z => h c' m' hd'' x (Nat.le_succ_of_le y) z) mk hd (e.trans hm)) fun pc' pos' hd' om' mk' lm' li' e' g' => ?_
   refine ⟨pc',pos',hd',om',mk',lm',li',e',?_⟩
   have g3:=g.trans g2
   have e5:({ ({ a with marks,handed }:M) with marks:=mk,lastmark:=kept.lastmark,lastindex:=kept.lastindex,handed:=hd }:M) = { a with marks:=mk,handed:=hd }:=by
    rw [hkm,hki]
   rw [e5] at g3
   have g4:=g3.trans g'
   refine G.le (j:=(c + 1 + 1) * (k + 1)) g4 ?_
   rw [Nat.succ_mul (c + 1)]; (simp +arith)
noncomputable def passing (f:Sre.Frame):Bool:=match f.wait with
 | .nextStart | .giveBack | .nextBranch | .maxMore | .maxTail | .closeLoop => true
 | _ => false
structure FoundAt (b:M) (start handed:Nat) (marks:Array (Option Nat)) (lm li:Int):Prop where
 start:b.start = start
 handed:b.handed = handed
 marks:b.marks = marks
 lm:b.lastmark = lm
 li:b.lastindex = li
theorem pop_yes {m:M} {f:Sre.Frame} {rest:List Sre.Frame} (ho:m.outcome = none) (ha:m.answer = some true) (hf:m.frames = f :: rest) (hp:passing f = true) :
  ∃ m',G 1 m m' /\ m'.outcome = none /\ m'.answer = some true /\ m'.frames = rest /\ FoundAt m' m.start m.handed m.marks m.lastmark m.lastindex:=by
 have key:∀ sn,M.step { m with seen:=sn } = M.resume (popped { m with seen:=sn } f rest) f true:=fun sn => step_pop (m:={ m with seen:=sn }) ho ha hf
 refine ⟨M.resume (popped m f rest) f true,G.one fun sn => ⟨sn,(key sn).trans ?_⟩,?_,?_,?_,?_⟩ <;>
  (obtain ⟨w,pc,pos,om,count,kept,loop,began⟩:=f
   cases w <;> first | (exact absurd (show false = true from hp) Bool.false_ne_true) | exact ho | rfl | exact ⟨rfl,rfl,rfl,rfl,rfl⟩)
theorem pop_all:∀ (fs:List Sre.Frame) {m:M},m.outcome = none -> m.answer = some true -> m.frames = fs -> fs.all passing = true ->
  ∃ m',G (fs.length + 1) m m' /\ m'.outcome = some .matched /\ FoundAt m' m.start m.handed m.marks m.lastmark m.lastindex
 | [],m,ho,ha,hf,_ => by
  refine ⟨{ m with outcome:=some .matched },G.one fun sn => ⟨sn,?_⟩,rfl,⟨rfl,rfl,rfl,rfl,rfl⟩⟩
  unfold M.step
  rw [if_neg (by show ¬ (m.outcome.isSome = true); rw [ho]; decide)]
  simp only [ha,hf]
  rfl
 | f :: rest,m,ho,ha,hf,hp => by
  rw [List.all_cons,Bool.and_eq_true] at hp
  refine xEAAAA (pop_yes ho ha hf hp.1) fun m1 g1 ho1 ha1 hf1 F1 => ?_
  refine xEAA (pop_all rest ho1 ha1 hf1 hp.2) fun m2 g2 h2 F2 => ?_
  refine ⟨m2,(g1.trans g2).le (by simp only [List.length_cons]; (simp +arith)),h2,⟨F2.start.trans F1.start,F2.handed.trans F1.handed,F2.marks.trans F1.marks,F2.lm.trans F1.lm,F2.li.trans F1.li⟩⟩
theorem end_no {m:M} (ho:m.outcome = none) (ha:m.answer = some false) (hf:m.frames = []):G 1 m { m with outcome:=some .failed }:=by
 refine G.one fun sn => ⟨sn,?_⟩
 unfold M.step
 rw [if_neg (by show ¬ (m.outcome.isSome = true); rw [ho]; decide)]
 simp only [ha,hf]
 rfl
noncomputable def Wins (k n:Nat) (a:M) (handed:Nat) (marks:Array (Option Nat)) (lm li:Int):Prop:=
 ∃ b,G k a b /\ b.answer = some true /\ b.outcome = none /\ b.frames.all passing = true /\ b.frames.length <= n /\ FoundAt b a.start handed marks lm li
theorem Wins.of_G {i k n:Nat} {a b:M} {handed:Nat} {marks:Array (Option Nat)} {lm li:Int} (g:G i a b) (hs:b.start = a.start) (h:Wins k n b handed marks lm li):Wins (i + k) n a handed marks lm li:=by
 refine xEAAAAA (h) fun c gc h1 h2 h3 h4 F => ?_
 exact ⟨c,g.trans gc,h1,h2,h3,h4,⟨F.start.trans hs,F.handed,F.marks,F.lm,F.li⟩⟩
theorem Wins.le {k k' n n':Nat} {a:M} {handed:Nat} {marks:Array (Option Nat)} {lm li:Int} (h:Wins k n a handed marks lm li) (hk:k <= k') (hn:n <= n'):Wins k' n' a handed marks lm li:=by
 refine xEAAAAA (h) fun c gc h1 h2 h3 h4 F => ?_
 exact ⟨c,gc.le hk,h1,h2,h3,Nat.le_trans h4 hn,F⟩
inductive EndsAs (k:Nat) (a:M):Option (Nat × Nat × Array (Option Nat) × Int × Int) -> Prop where
 | none {b:M}:G k a b -> b.outcome = some .failed -> EndsAs k a none
 | some {b:M} {st hd:Nat} {mk:Array (Option Nat)} {lm li:Int}:G k a b -> b.outcome = some .matched -> FoundAt b st hd mk lm li -> EndsAs k a (some (st,hd,mk,lm,li))
theorem EndsAs.of_G {i k:Nat} {a b:M} {r} (g:G i a b) (h:EndsAs k b r):EndsAs (i + k) a r:=by
 cases h with
 | none g' h => exact .none (g.trans g') h
 | some g' h F => exact .some (g.trans g') h F
theorem EndsAs.le {i k:Nat} {a:M} {r} (h:EndsAs i a r) (hk:i <= k):EndsAs k a r:=by
 cases h with
 | none g' h => exact .none (g'.le hk) h
 | some g' h F => exact .some (g'.le hk) h F
theorem Wins.ends {k n:Nat} {a:M} {handed:Nat} {marks:Array (Option Nat)} {lm li:Int} (h:Wins k n a handed marks lm li):EndsAs (k + (n + 1)) a (some (a.start,handed,marks,lm,li)):=by
 refine xEAAAAA (h) fun b g h1 h2 h3 h4 F => ?_
 refine xEAA (pop_all b.frames h2 h1 rfl h3) fun c g' h' F' => ?_
 exact .some ((g.trans g').le (by lia)) h' ⟨F'.start.trans F.start,F'.handed.trans F.handed,F'.marks.trans F.marks,F'.lm.trans F.lm,F'.li.trans F.li⟩
noncomputable def atStart (code text:Array Nat) (ls:Nat) (ma:Bool) (s:Nat) (first:Bool) (marks:Array (Option Nat)):M:=
 {code,text,lim:=text.size,start:=s,lastStart:=ls,mustAdvance:=ma,pc:=(header code).2,pos:=s,handed:=s,outermost:=first,marks,
  frames:=[{ wait:=.nextStart,pc:=(header code).2,pos:=s,outermost:=first }],weight:=1 }
noncomputable def base (code text:Array Nat) (ls:Nat) (ma:Bool) (st pos handed:Nat) (om:Bool) (marks:Array (Option Nat)) (lm li:Int):M:=
 {code,text,lim:=text.size,start:=st,lastStart:=ls,mustAdvance:=ma,pc:=(header code).2,pos,handed,outermost:=om,marks,lastmark:=lm,lastindex:=li }
theorem g_next {code text:Array Nat} {ls:Nat} {ma:Bool} {s:Nat} {first:Bool} {marks:Array (Option Nat)} {k:Nat}
  (hset:((match ops[code.getD 0 0]? with | some .INFO => true | _ => false) && code.getD 2 0 == 4) = false)
  (h:Fails k (atStart code text ls ma s first marks)) (hs:s < ls) :
  ∃ marks',marks'.size = marks.size /\ G (k + 1) (atStart code text ls ma s first marks) (atStart code text ls false (s + 1) false marks'):=by
 refine xEEEEEEEA (h) fun pc pos hd om mk lm li e g => ?_
 refine ⟨mk,e,g.trans (G.one fun sn => ⟨sn,?_⟩)⟩
 rw [step_pop (m:={ noOf (atStart code text ls ma s first marks) pc pos hd om mk lm li with seen:=sn }) (f:={ wait:=.nextStart,pc:=(header code).2,pos:=s,outermost:=first }) (rest:=[]) (b:=false) rfl rfl rfl]
 unfold M.resume
 dsimp only
 rw [if_neg (by decide),if_pos (by exact hs)]
 have e1:∀ m:M,({ m with seen:=sn }:M).attemptFrom (s + 1) false = ({ m with seen:=sn }:M).attemptFrom (s + 1) false:=fun _ => rfl
 unfold M.attemptFrom
 have e2:M.hasFirstSet { popped { noOf (atStart code text ls ma s first marks) pc pos hd om mk lm li with seen:=sn } { wait:=.nextStart,pc:=(header code).2,pos:=s,outermost:=first } [] with mustAdvance:=false } = false:=hset
 rw [e2]
 unfold M.attemptAt
 dsimp only [Bool.not_false,if_true]
 rw [attempt_eq (by show 1 - (1 + 0) + 1 + 0 <= 16777216; decide)]
 rfl
theorem g_over {code text:Array Nat} {ls:Nat} {ma:Bool} {s:Nat} {first:Bool} {marks:Array (Option Nat)} {k:Nat}
  (h:Fails k (atStart code text ls ma s first marks)) (hs:¬ s < ls):EndsAs (k + 2) (atStart code text ls ma s first marks) none:=by
 refine xEEEEEEEA (h) fun pc pos hd om mk lm li e g => ?_
 have g1:G 1 (noOf (atStart code text ls ma s first marks) pc pos hd om mk lm li) ((popped (noOf (atStart code text ls ma s first marks) pc pos hd om mk lm li) { wait:=.nextStart,pc:=(header code).2,pos:=s,outermost:=first } []).say false):=by
  refine G.one fun sn => ⟨sn,?_⟩
  rw [step_pop (m:={ noOf (atStart code text ls ma s first marks) pc pos hd om mk lm li with seen:=sn }) (f:={ wait:=.nextStart,pc:=(header code).2,pos:=s,outermost:=first }) (rest:=[]) (b:=false) rfl rfl rfl]
  unfold M.resume
  dsimp only
  rw [if_neg (by decide),if_neg (by exact hs)]
  rfl
 have g2:=end_no (m:=(popped (noOf (atStart code text ls ma s first marks) pc pos hd om mk lm li) { wait:=.nextStart,pc:=(header code).2,pos:=s,outermost:=first } []).say false) rfl rfl rfl
 exact .none ((g.trans g1).trans g2) rfl
theorem search_ends {code text:Array Nat} {ls k j:Nat} {r}
  (hset:((match ops[code.getD 0 0]? with | some .INFO => true | _ => false) && code.getD 2 0 == 4) = false) (sz:Nat)
  (t:Nat):∀ (n s:Nat) (ma first:Bool) (marks:Array (Option Nat)),t - s = n -> s <= t -> t <= ls -> marks.size = sz ->
   (∀ s' ma first marks,s <= s' -> s' < t -> marks.size = sz -> Fails k (atStart code text ls ma s' first marks)) ->
   (∀ ma' first' marks',marks'.size = sz -> (s = t -> ma' = ma /\ first' = first) -> (s ≠ t -> ma' = false /\ first' = false) -> EndsAs j (atStart code text ls ma' t first' marks') r) ->
   EndsAs (n * (k + 1) + j) (atStart code text ls ma s first marks) r
 | 0,s,ma,first,marks,hn,hs,_,hm,_,hw => by
  obtain rfl:s = t:=Nat.le_antisymm hs (Nat.le_of_sub_eq_zero hn)
  exact (hw ma first marks hm (fun _ => ⟨rfl,rfl⟩) (fun h => absurd rfl h)).le (by rw [Nat.zero_mul,Nat.zero_add]; exact Nat.le_refl _)
 | n + 1,s,ma,first,marks,hn,hs,ht,hm,hf,hw => by
  have hlt:s < t:=Nat.lt_of_sub_eq_succ hn
  refine xEA (g_next (k:=k) hset (hf s ma first marks (Nat.le_refl _) hlt hm) (Nat.lt_of_lt_of_le hlt ht)) fun mk e g => ?_
  have ih:=search_ends hset sz t n (s + 1) false false mk (sub_pred hn) hlt ht (e.trans hm) (fun s' ma first marks x y z => hf s' ma first marks (Nat.le_of_succ_le x) y z)
   (fun ma' first' marks' z x y => hw ma' first' marks' z (fun q => absurd q (Nat.ne_of_lt hlt)) (fun _ => by
    by_cases q:s + 1 = t
    ·exact x q
    ·exact y q))
  refine (EndsAs.of_G g ih).le ?_
  rw [Nat.succ_mul]; (simp +arith)
noncomputable def cJunk:Array Nat:=#[14,4,0,0,4294967295,6,0,24,13,0,4294967295,13,8,16,61,8,12,16,59,0,1,1]
noncomputable def cTok:Array Nat:=#[14,4,0,1,4294967295,6,0,24,9,0,4294967295,13,4,8,12,0,1,17,0,24,19,1,4294967295,13,14,21,9,0,671092736,0,0,0,0,0,0,8,12,0,1,17,1,1]
noncomputable def cQuo:Array Nat:=#[14,4,0,3,4294967295,6,0,24,9,0,4294967295,13,4,8,12,0,1,16,61,24,9,0,4294967295,13,4,8,12,0,1,16,34,17,0,24,12,0,4294967295,13,7,21,16,34,16,92,0,1,23,19,0,4294967295,16,92,2,24,12,0,4294967295,13,7,21,16,34,16,92,0,1,18,17,1,16,34,1]
noncomputable def cVal:Array Nat:=#[14,4,0,1,4294967295,6,0,24,9,0,4294967295,13,4,8,12,0,1,16,61,24,9,0,4294967295,13,4,8,12,0,1,17,0,24,14,0,4294967295,13,9,21,8,12,16,59,16,44,0,1,17,1,1]
noncomputable def cEsc:Array Nat:=#[14,8,1,2,2,1,1,92,0,16,92,17,0,2,17,1,1]
noncomputable def cJTok:Array Nat:=#[14,4,0,1,4294967295,24,16,1,4294967295,13,11,9,0,67071226,3355443198,1476395007,0,0,0,0,0,1,1]
noncomputable def cJEsc:Array Nat:=#[14,9,4,1,1,16,34,16,92,0,17,0,13,6,16,34,16,92,0,17,1,1]
noncomputable def cDot:Array Nat:=#[14,4,0,1,1,6,1,16,46,1]
noncomputable def cEol:Array Nat:=#[14,9,4,1,2,16,10,16,13,0,7,7,16,13,16,10,15,18,5,16,10,15,13,11,16,13,5,5,0,16,10,1,15,2,0,1]
noncomputable def isSp (c:Nat):Bool:=Unicode.isSpace c
noncomputable def isTk (c:Nat):Bool:=!(c == 61 || c == 59 || c == 44 || isSp c)
noncomputable def isQ (c:Nat):Bool:=!(c == 34 || c == 92)
noncomputable def isV (c:Nat):Bool:=!(isSp c || c == 59 || c == 44)
noncomputable def isJunk (c:Nat):Bool:=c == 61 || isSp c || c == 59
noncomputable def isSome34 (c:Nat):Bool:=c == 34 || c == 92
noncomputable def isEol (c:Nat):Bool:=c == 10 || c == 13
noncomputable def isJt (c:Nat):Bool:=c == 33 || (35 <= c && c <= 39) || c == 42 || c == 43 || c == 45 || c == 46 || (48 <= c && c <= 57) || (65 <= c && c <= 90) || (94 <= c && c <= 122) || c == 124 || c == 126
theorem acc_lit {code:Array Nat} {i w:Nat} (h:ops[code.getD i 0]? = some .LITERAL) (hw:code.getD (i + 1) 0 = w) (c:Nat):Acc code i c (c == w):=fun sn => by
 refine ⟨sn,?_⟩
 unfold accepts
 simp only [h,hw]
theorem acc_any {code:Array Nat} {i:Nat} (h:ops[code.getD i 0]? = some .ANY) (c:Nat):Acc code i c (c != 10):=fun sn => by
 refine ⟨sn,?_⟩
 unfold accepts
 simp only [h]
noncomputable def InS (code:Array Nat) (n i c:Nat) (yes r:Bool):Prop:=∀ sn,∃ sn',inSet code c n i yes sn = .ok (r,sn')
theorem inSet_at {code:Array Nat} {n i c:Nat} {yes:Bool} {sn:Seen}:∃ F:Option Op -> Except String (Bool × Seen),inSet code c (n + 1) i yes sn = F ops[code.getD (i + 0) 0]? /\
  ∃ sn',F (some .FAILURE) = .ok (!yes,sn') /\ F (some .NEGATE) = inSet code c n (i + 1) (!yes) sn' /\ F (some .LITERAL) = (if c == code.getD (i + 1) 0 then .ok (yes,sn') else inSet code c n (i + 2) yes sn') /\
  F (some .CATEGORY) = (category (code.getD (i + 1) 0) c >>= fun b => if b = true then pure (yes,sn'.add (55 + code.getD (i + 1) 0)) else inSet code c n (i + 2) yes (sn'.add (55 + code.getD (i + 1) 0))) /\
  F (some .CHARSET) = (if c < 256 && (code.getD (i + (1 + c / 32)) 0).testBit (c % 32) then .ok (yes,sn') else inSet code c n (i + 9) yes sn'):=
 ⟨fun o => PySem.Sre.inSet.match_1 (fun _ => Except String (Bool × Seen)) o _ _ _ _ _ _ _ _ _,rfl,sn.add (code.getD (i + 0) 0),rfl,rfl,rfl,rfl,rfl⟩
theorem InS.fail {code:Array Nat} {n i c:Nat} {yes:Bool} (h:ops[code.getD (i + 0) 0]? = some .FAILURE):InS code (n + 1) i c yes (!yes):=fun sn =>
 inSet_at.elim fun F q => q.2.elim fun sn' r => ⟨sn',by rw [q.1,h]; exact r.1⟩
theorem InS.neg {code:Array Nat} {n i c:Nat} {yes r:Bool} (h:ops[code.getD (i + 0) 0]? = some .NEGATE) (k:InS code n (i + 1) c (!yes) r):InS code (n + 1) i c yes r:=fun sn =>
 inSet_at.elim fun F q => q.2.elim fun sn' r => (k sn').elim fun s2 e => ⟨s2,by rw [q.1,h]; exact r.2.1.trans e⟩
theorem InS.lit {code:Array Nat} {n i c w:Nat} {yes r:Bool} (h:ops[code.getD (i + 0) 0]? = some .LITERAL) (hw:code.getD (i + 1) 0 = w) (k:InS code n (i + 2) c yes r):InS code (n + 1) i c yes (if c == w then yes else r):=fun sn =>
 inSet_at.elim fun F q => q.2.elim fun sn' r => by
  rw [q.1,h,r.2.2.1,hw]
  cases c == w
  ·exact k _
  ·exact ⟨_,rfl⟩
theorem InS.cat {code:Array Nat} {n i c w:Nat} {yes r b:Bool} (h:ops[code.getD (i + 0) 0]? = some .CATEGORY) (hw:code.getD (i + 1) 0 = w) (hc:category w c = .ok b) (k:InS code n (i + 2) c yes r):InS code (n + 1) i c yes (if b then yes else r):=fun sn =>
 inSet_at.elim fun F q => q.2.elim fun sn' r => by
  rw [q.1,h,r.2.2.2.1,hw,hc]
  cases b
  ·exact k _
  ·exact ⟨_,rfl⟩
theorem InS.chars {code:Array Nat} {n i c:Nat} {yes r:Bool} (h:ops[code.getD (i + 0) 0]? = some .CHARSET) (k:InS code n (i + 9) c yes r) :
  InS code (n + 1) i c yes (if c < 256 && (code.getD (i + (1 + c / 32)) 0).testBit (c % 32) then yes else r):=fun sn =>
 inSet_at.elim fun F q => q.2.elim fun sn' r => by
  rw [q.1,h,r.2.2.2.2]
  cases (c < 256 && (code.getD (i + (1 + c / 32)) 0).testBit (c % 32))
  ·exact k _
  ·exact ⟨_,rfl⟩
theorem InS.to {code:Array Nat} {n i c:Nat} {yes r r':Bool} (h:InS code n i c yes r) (e:r = r'):InS code n i c yes r':=e ▸ h
theorem acc_in {code:Array Nat} {i c:Nat} {r:Bool} (h:ops[code.getD i 0]? = some .IN) (k:InS code code.size (i + 2) c true r):Acc code i c r:=fun sn => by
 unfold accepts; simp only [h]; exact k sn
theorem cat12 (c:Nat):category 12 c = .ok (isSp c):=by
 show Except.map (· != false) (Except.ok (Unicode.isSpace c)) = _
 unfold isSp; cases Unicode.isSpace c <;> rfl
theorem acc_sp_tok (c:Nat):Acc cTok 11 c (isSp c):=
 acc_in rfl (InS.to (.cat rfl rfl (cat12 c) (.fail rfl)) (by cases isSp c <;> rfl))
theorem acc_sp_quo1 (c:Nat):Acc cQuo 11 c (isSp c):=
 acc_in rfl (InS.to (.cat rfl rfl (cat12 c) (.fail rfl)) (by cases isSp c <;> rfl))
theorem acc_sp_quo2 (c:Nat):Acc cQuo 23 c (isSp c):=
 acc_in rfl (InS.to (.cat rfl rfl (cat12 c) (.fail rfl)) (by cases isSp c <;> rfl))
theorem acc_sp_val1 (c:Nat):Acc cVal 11 c (isSp c):=
 acc_in rfl (InS.to (.cat rfl rfl (cat12 c) (.fail rfl)) (by cases isSp c <;> rfl))
theorem acc_sp_val2 (c:Nat):Acc cVal 23 c (isSp c):=
 acc_in rfl (InS.to (.cat rfl rfl (cat12 c) (.fail rfl)) (by cases isSp c <;> rfl))
theorem acc_q1 (c:Nat):Acc cQuo 37 c (isQ c):=
 acc_in rfl (InS.to (.neg rfl (.lit (w:=34) rfl rfl (.lit (w:=92) rfl rfl (.fail rfl)))) (by unfold isQ; cases c == 34 <;> cases c == 92 <;> rfl))
theorem acc_q2 (c:Nat):Acc cQuo 57 c (isQ c):=
 acc_in rfl (InS.to (.neg rfl (.lit (w:=34) rfl rfl (.lit (w:=92) rfl rfl (.fail rfl)))) (by unfold isQ; cases c == 34 <;> cases c == 92 <;> rfl))
theorem acc_v (c:Nat):Acc cVal 35 c (isV c):=
 acc_in rfl (InS.to (.neg rfl (.cat (w:=12) rfl rfl (cat12 c) (.lit (w:=59) rfl rfl (.lit (w:=44) rfl rfl (.fail rfl))))) (by unfold isV; cases isSp c <;> cases c == 59 <;> cases c == 44 <;> rfl))
theorem acc_junk (c:Nat):Acc cJunk 11 c (isJunk c):=
 acc_in rfl (InS.to (.lit (w:=61) rfl rfl (.cat (w:=12) rfl rfl (cat12 c) (.lit (w:=59) rfl rfl (.fail rfl)))) (by unfold isJunk; cases isSp c <;> cases c == 59 <;> cases c == 61 <;> rfl))
theorem acc_jesc (c:Nat):Acc cJEsc 12 c (isSome34 c):=
 acc_in rfl (InS.to (.lit (w:=34) rfl rfl (.lit (w:=92) rfl rfl (.fail rfl))) (by unfold isSome34; cases c == 34 <;> cases c == 92 <;> rfl))
theorem tk_bits:∀ c:Nat,c < 256 -> (cTok.getD (26 + (1 + c / 32)) 0).testBit (c % 32) = (c == 61 || c == 59 || c == 44):=by decide +kernel
theorem acc_tk (c:Nat):Acc cTok 23 c (isTk c):=by
 refine acc_in rfl (InS.to (.neg rfl (.chars rfl (.cat rfl rfl (cat12 c) (.fail rfl)))) ?_)
 unfold isTk
 by_cases h:c < 256
 ·rw [tk_bits c h]
  simp only [h,decide_true,Bool.true_and]
  cases (c == 61 || c == 59 || c == 44) <;> cases isSp c <;> rfl
 ·have h1:(c == 61) = false:=by rw [beq_eq_false_iff_ne]; (omega)
  have h2:(c == 59) = false:=by rw [beq_eq_false_iff_ne]; (omega)
  have h3:(c == 44) = false:=by rw [beq_eq_false_iff_ne]; (omega)
  rw [h1,h2,h3,decide_eq_false h]
  simp only [Bool.false_and,Bool.false_eq_true,if_false,Bool.false_or]
  cases isSp c <;> rfl
theorem jt_bits:∀ c:Nat,c < 256 -> (cJTok.getD (11 + (1 + c / 32)) 0).testBit (c % 32) = isJt c:=by decide +kernel
theorem jt_big {c:Nat} (h:127 <= c):isJt c = false:=by
 have e:∀ k,k < 127 -> (c == k) = false:=fun k hk => beq_false_of_ne (Nat.ne_of_gt (Nat.lt_of_lt_of_le hk h))
 have l:∀ k,k < 127 -> decide (c <= k) = false:=fun k hk => decide_eq_false (Nat.not_le_of_lt (Nat.lt_of_lt_of_le hk h))
 unfold isJt
 rw [e 33 (by decide),e 42 (by decide),e 43 (by decide),e 45 (by decide),e 46 (by decide),e 124 (by decide),e 126 (by decide),l 39 (by decide),l 57 (by decide),l 90 (by decide),l 122 (by decide)]
 simp only [Bool.and_false,Bool.or_false]
theorem acc_jt (c:Nat):Acc cJTok 9 c (isJt c):=by
 refine acc_in rfl (InS.to (.chars rfl (.fail rfl)) ?_)
 by_cases h:c < 256
 ·rw [jt_bits c h]
  simp only [h,decide_true,Bool.true_and]
  cases isJt c <;> rfl
 ·rw [decide_eq_false h]
  simp only [Bool.false_and,Bool.false_eq_true,if_false]
  rw [jt_big (Nat.le_trans (by decide) (Nat.le_of_not_lt h))]; rfl
theorem spanLen_lt {P:Nat -> Bool} {text:Array Nat}:∀ {n p c:Nat},c < spanLen P text n p -> P (text.getD (p + c) 0) = true
 | 0,_,_,h => absurd h (Nat.not_lt_zero _)
 | n + 1,p,c,h => by
  rw [spanLen_succ] at h
  split at h
  ·rename_i hp
   cases c with
   | zero => exact hp
   | succ c =>
    have:=spanLen_lt (P:=P) (text:=text) (n:=n) (p:=p + 1) (c:=c) (by (exact Nat.le_of_lt_succ (by assumption)))
    rw [show p + (c + 1) = p + 1 + c by (simp +arith)]; exact this
  ·exact absurd h (Nat.not_lt_zero _)
theorem spanLen_zero {P:Nat -> Bool} {text:Array Nat} {n p:Nat} (h:P (text.getD p 0) = false):spanLen P text n p = 0:=by
 cases n with
 | zero => rfl
 | succ n => rw [spanLen_succ,h]; rfl
theorem fails_bos {code text:Array Nat} {ls:Nat} {ma:Bool} {s:Nat} {first:Bool} {marks:Array (Option Nat)} (hh:(header code).2 = 5) (hsz:5 < code.size) (h5:ops[code.getD 5 0]? = some .AT) (h6:code.getD 6 0 = 0) (hs:0 < s) :
  Fails 1 (atStart code text ls ma s first marks):=by
 have r:Ready (atStart code text ls ma s first marks):=⟨rfl,rfl,by show (header code).2 < _; rw [hh]; exact hsz⟩
 have e0:(atStart code text ls ma s first marks).word 0 = code.getD 5 0:=by show code.getD ((header code).2 + 0) 0 = _; rw [hh]
 have e1:(atStart code text ls ma s first marks).word 1 = 0:=by show code.getD ((header code).2 + 1) 0 = _; rw [hh]; exact h6
 have g:=g_at (b:=false) r (by rw [e0]; exact h5) (by
  rw [e1]
  show Except.ok (s == 0) = _
  rw [beq_eq_false_iff_ne.mpr (by lia)])
 exact Fails.now (pos:=s) g
theorem g_bos {code text:Array Nat} {ls:Nat} {ma first:Bool} {marks:Array (Option Nat)} (hh:(header code).2 = 5) (hsz:5 < code.size) (h5:ops[code.getD 5 0]? = some .AT) (h6:code.getD 6 0 = 0) :
  G 1 (atStart code text ls ma 0 first marks) { atStart code text ls ma 0 first marks with pc:=7 }:=by
 have r:Ready (atStart code text ls ma 0 first marks):=⟨rfl,rfl,by show (header code).2 < _; rw [hh]; exact hsz⟩
 have e0:(atStart code text ls ma 0 first marks).word 0 = code.getD 5 0:=by show code.getD ((header code).2 + 0) 0 = _; rw [hh]
 have e1:(atStart code text ls ma 0 first marks).word 1 = 0:=by show code.getD ((header code).2 + 1) 0 = _; rw [hh]; exact h6
 have g:=g_at (b:=true) r (by rw [e0]; exact h5) (by rw [e1]; rfl)
 have e:({ atStart code text ls ma 0 first marks with pc:=(atStart code text ls ma 0 first marks).pc + 2 }:M) = { atStart code text ls ma 0 first marks with pc:=7 }:=by
  show ({ atStart code text ls ma 0 first marks with pc:=(header code).2 + 2 }:M) = _
  rw [hh]
 rw [if_pos rfl,e] at g
 exact g
theorem pair2 {α:Type} {mk:Array α} (h:mk.size = 2):∃ x y,mk = #[x,y]:=by
 obtain ⟨l⟩:=mk
 cases l with
 | nil => cases h
 | cons x l => cases l with
  | nil => cases h
  | cons y l => cases l with
   | nil => exact ⟨x,y,rfl⟩
   | cons z l => cases h
theorem marks2 {mk:Array (Option Nat)} (h:mk.size = 2) (a b:Option Nat):(mk.setIfInBounds 0 a).setIfInBounds 1 b = #[a,b]:=by
 obtain ⟨x,y,rfl⟩:=pair2 h
 rfl
structure At (C T:Array Nat) (a:M) (pc pos:Nat):Prop where
 code:a.code = C
 text:a.text = T
 lim:a.lim = T.size
 out:a.outcome = none
 ans:a.answer = none
 pc:a.pc = pc
 pos:a.pos = pos
section
variable {C T:Array Nat} {a:M} {pc pos k n:Nat} {hd:Nat} {mk:Array (Option Nat)} {lm li:Int}
theorem At.ready (h:At C T a pc pos) (hs:pc < C.size):Ready a:=⟨h.ans,h.out,by rw [h.pc,h.code]; exact hs⟩
theorem At.word (h:At C T a pc pos) (k:Nat):a.word k = C.getD (pc + k) 0:=by unfold M.word; rw [h.code,h.pc]
theorem At.to (h:At C T a pc pos) (p q:Nat):At C T { a with pc:=p,pos:=q } p q:=⟨h.code,h.text,h.lim,h.out,h.ans,rfl,rfl⟩
theorem fl_one (h:At C T a pc pos) (hs:pc < C.size) {op:Op} (hop:ops[C.getD pc 0]? = some op) (h1:isOne op = true) (hno:pos ≥ T.size \/ Acc C pc (T.getD pos 0) false):Fails 1 a:=by
 refine Fails.now (pos:=a.pos) (g_one_no (op:=op) (h.ready hs) (by rw [h.word]; exact hop) h1 ?_)
 rw [h.pos,h.lim,h.code,h.pc,h.text]
 exact hno
theorem g_one' (h:At C T a pc pos) (hs:pc < C.size) {op:Op} (hop:ops[C.getD pc 0]? = some op) (h1:isOne op = true) (hp:pos < T.size) (hy:Acc C pc (T.getD pos 0) true):G 1 a { a with pc:=pc + itemWidth C pc,pos:=pos + 1 }:=by
 have g:=g_one_yes (op:=op) (h.ready hs) (by rw [h.word]; exact hop) h1 (by rw [h.pos,h.lim]; exact hp) (by rw [h.pos,h.code,h.pc,h.text]; exact hy)
 have e:a.pc + itemWidth a.code a.pc = pc + itemWidth C pc:=by rw [h.pc,h.code]
 rw [e,h.pos] at g
 exact g
theorem fl_then (g:G 1 a { a with pc:=pc,pos:=pos }) (f:Fails k { a with pc:=pc,pos:=pos }):Fails (1 + k) a:=
 Fails.of_G (marks:=a.marks) (om:=a.outermost) (handed:=a.handed) (lm:=a.lastmark) (li:=a.lastindex) rfl g f
theorem wn_then (g:G 1 a { a with pc:=pc,pos:=pos }) (f:Wins k n { a with pc:=pc,pos:=pos } hd mk lm li):Wins (1 + k) n a hd mk lm li:=Wins.of_G g rfl f
theorem size_mark (m:M) (i:Nat):(m.mark i).marks.size = m.marks.size:=by
 unfold M.mark
 simp only [Array.size_setIfInBounds]
 split
 ·rfl
 ·generalize List.range i = l
  generalize m.marks = mk
  induction l generalizing mk with
  | nil => rfl
  | cons x l ih =>
   rw [List.foldl_cons,ih]
   split
   ·exact Array.size_setIfInBounds
   ·rfl
theorem At.mark (h:At C T a pc pos) (i:Nat):At C T (a.mark i) (pc + 2) pos:=⟨h.code,h.text,h.lim,h.out,h.ans,by show a.pc + 2 = _; rw [h.pc],h.pos⟩
theorem g_mark' (h:At C T a pc pos) (hs:pc < C.size) (hop:ops[C.getD pc 0]? = some .MARK):G 1 a (a.mark (C.getD (pc + 1) 0)):=by
 have g:=g_mark (h.ready hs) (by rw [h.word]; exact hop)
 rw [h.word 1] at g
 exact g
theorem fl_mark (h:At C T a pc pos) (hs:pc < C.size) (hop:ops[C.getD pc 0]? = some .MARK) (f:Fails k (a.mark (C.getD (pc + 1) 0))):Fails (1 + k) a:=by
 refine xEEEEEEEA (f) fun pc' pos' hd' om' mk' lm' li' e g => ?_
 exact ⟨pc',pos',hd',om',mk',lm',li',e.trans (size_mark ..),(g_mark' h hs hop).trans g⟩
theorem wn_mark (h:At C T a pc pos) (hs:pc < C.size) (hop:ops[C.getD pc 0]? = some .MARK) (f:Wins k n (a.mark (C.getD (pc + 1) 0)) hd mk lm li):Wins (1 + k) n a hd mk lm li:=
 Wins.of_G (g_mark' h hs hop) rfl f
theorem wn_success (h:At C T a pc pos) (hs:pc < C.size) (hop:ops[C.getD pc 0]? = some .SUCCESS) (hw:a.wholeText = false \/ pos = T.size) (hm:a.mustAdvance = false \/ a.start ≠ pos) (hf:a.frames.all passing = true) (hn:a.frames.length <= n) :
  Wins 1 n a pos a.marks a.lastmark a.lastindex:=by
 refine ⟨_,g_success (h.ready hs) (by rw [h.word]; exact hop) ?_,rfl,h.out,hf,hn,⟨rfl,h.pos,rfl,rfl,rfl⟩⟩
 rw [h.pos,h.lim]
 have h1:(a.wholeText && pos != T.size) = false:=by
  rcases hw with hw | hw
  ·rw [hw]; rfl
  ·rw [hw]; simp
 have h2:(a.mustAdvance && pos == a.start) = false:=by
  rcases hm with hm | hm
  ·rw [hm]; rfl
  ·rw [show (pos == a.start) = false from beq_eq_false_iff_ne.mpr (Ne.symm hm),Bool.and_false]
 rw [h1,h2]; simp
theorem fl_success (h:At C T a pc pos) (hs:pc < C.size) (hop:ops[C.getD pc 0]? = some .SUCCESS) (hw:a.wholeText = true) (ho:a.outermost = true) (hp:pos ≠ T.size):Fails 1 a:=by
 refine Fails.now (pos:=a.pos) (g_success_no (h.ready hs) (by rw [h.word]; exact hop) ?_)
 rw [h.pos,h.lim,hw,ho]
 simp [hp]
theorem fl_rep_few {P:Nat -> Bool} (h:At C T a pc pos) (hs:pc < C.size) (hop:ops[C.getD pc 0]? = some .REPEAT_ONE) (hP:∀ c,Acc C (pc + 4) c (P c)) (hm:C.getD (pc + 3) 0 = 4294967295) (hp:pos <= T.size) (hT:T.size <= 4000000)
  (hl:spanLen P T (T.size - pos) pos < C.getD (pc + 2) 0):Fails 1 a:=by
 obtain ⟨p,g⟩:=g_rep_no (P:=P) (h.ready hs) (by rw [h.word]; exact hop) (fun c => by rw [h.code,h.pc]; exact hP c) (by rw [h.word]; exact hm) (by rw [h.pos,h.lim]; exact hp) (by rw [h.lim]; lia)
  (by rw [h.word,h.text,h.lim,h.pos]; exact hl)
 exact Fails.now g
theorem At.tail (h:At C T a pc pos) (c:Nat) (kept:Sre.Kept):At C T (tailOf a c kept) (pc + 1 + C.getD (pc + 1) 0) (pos + c):=
 ⟨h.code,h.text,h.lim,h.out,h.ans,by show a.pc + 1 + a.word 1 = _; rw [h.pc,h.word],by show a.pos + c = _; rw [h.pos]⟩
theorem g_rep' {P:Nat -> Bool} (h:At C T a pc pos) (hs:pc < C.size) (hop:ops[C.getD pc 0]? = some .REPEAT_ONE) (hP:∀ c,Acc C (pc + 4) c (P c)) (hm:C.getD (pc + 3) 0 = 4294967295) (hp:pos <= T.size) (hT:T.size <= 4000000)
  (hw:a.weight + 1 + (a.keep a.inner.isSome).marks.size <= 16777216) (hl:C.getD (pc + 2) 0 <= spanLen P T (T.size - pos) pos) :
  G 1 a (tailOf a (spanLen P T (T.size - pos) pos) (a.keep a.inner.isSome)):=by
 have g:=g_rep (P:=P) (h.ready hs) (by rw [h.word]; exact hop) (fun c => by rw [h.code,h.pc]; exact hP c) (by rw [h.word]; exact hm) (by rw [h.pos,h.lim]; exact hp) (by rw [h.lim]; lia) hw
  (by rw [h.word,h.text,h.lim,h.pos]; exact hl)
 rw [h.text,h.lim,h.pos] at g
 exact g
theorem fl_rep {P:Nat -> Bool} (h:At C T a pc pos) (hs:pc < C.size) (hop:ops[C.getD pc 0]? = some .REPEAT_ONE) (hP:∀ c,Acc C (pc + 4) c (P c)) (hm:C.getD (pc + 3) 0 = 4294967295) (hp:pos <= T.size) (hT:T.size <= 4000000)
  (hin:a.inner = none) (hw:a.weight + 1 <= 16777216) (h2:C.getD (pc + 2) 0 = 0 \/ C.getD (pc + 2) 0 = 1)
  (ht:∀ c marks handed,C.getD (pc + 2) 0 <= c -> c <= spanLen P T (T.size - pos) pos -> marks.size = a.marks.size -> Fails k (tailOf { a with marks,handed } c (a.keep false))) :
  Fails (1 + (spanLen P T (T.size - pos) pos + 1) * (k + 1)) a:=by
 by_cases hl:C.getD (pc + 2) 0 <= spanLen P T (T.size - pos) pos
 ·have g:=g_rep' h hs hop hP hm hp hT (by rw [hin]; exact hw) hl
  rw [hin] at g
  have e2:a.word 2 = C.getD (pc + 2) 0:=h.word 2
  obtain ⟨pc',pos',hd',om',mk',lm',li',e,g'⟩:=fails_tails (a:=a) (kept:=a.keep false) (k:=k) h.out h.ans rfl rfl hw (by rw [e2]; exact h2) rfl rfl _ (by rw [e2]; exact hl)
   (fun c' m' hd' x y z => ht c' m' hd' (by rw [<- e2]; exact x) y z) a.marks a.handed rfl
  exact ⟨pc',pos',hd',om',mk',lm',li',e,g.trans g'⟩
 ·exact (fl_rep_few h hs hop hP hm hp hT (by (omega))).le (by (exact Nat.le_add_left _ _))
theorem wn_rep {P:Nat -> Bool} (h:At C T a pc pos) (hs:pc < C.size) (hop:ops[C.getD pc 0]? = some .REPEAT_ONE) (hP:∀ c,Acc C (pc + 4) c (P c)) (hm:C.getD (pc + 3) 0 = 4294967295) (hp:pos <= T.size) (hT:T.size <= 4000000)
  (hw:a.weight + 1 + (a.keep a.inner.isSome).marks.size <= 16777216) (hl:C.getD (pc + 2) 0 <= spanLen P T (T.size - pos) pos)
  (f:Wins k n (tailOf a (spanLen P T (T.size - pos) pos) (a.keep a.inner.isSome)) hd mk lm li):Wins (1 + k) n a hd mk lm li:=
 Wins.of_G (g_rep' h hs hop hP hm hp hT hw hl) rfl f
end
noncomputable abbrev Hit:=Option (Nat × Nat × Array (Option Nat) × Int × Int)
noncomputable def RxRes (k:Nat) (m:M) (r:Hit):Prop:=∃ n,n <= k /\ match r with
 | none => (stepN n m).outcome = some .failed
 | some (st,hd,mks,lm,li) => (stepN n m).outcome = some .matched /\ FoundAt (stepN n m) st hd mks lm li
theorem RxRes.of {k:Nat} {a m:M} {r:Hit} {sn:Seen} (h:EndsAs k a r) (e:m = { a with seen:=sn }):RxRes k m r:=by
 subst e
 cases h with
 | none g ho =>
  refine xEEA (g sn) fun s' n hn e => ?_
  exact ⟨n,hn,by simp only; rw [e]; exact ho⟩
 | some g ho F =>
  refine xEEA (g sn) fun s' n hn e => ?_
  exact ⟨n,hn,by simp only; rw [e]; exact ⟨ho,F.start,F.handed,F.marks,F.lm,F.li⟩⟩
theorem RxRes.le {k l:Nat} {m:M} {r:Hit} (h:RxRes k m r) (hl:k <= l):RxRes l m r:=by obtain ⟨n,hn,x⟩:=h; exact ⟨n,Nat.le_trans hn hl,x⟩
noncomputable def plainCode (code:Array Nat):Bool:=!((match ops[code.getD 0 0]? with | some .INFO => true | _ => false) && code.getD 2 0 == 4)
theorem forSearch_plain {code T:Array Nat} {g s:Nat} {ma:Bool} (hset:plainCode code = true) (h1:s <= T.size) (h2:¬ T.size - s < (header code).1) :
  ∃ sn,forSearch code T g s T.size ma = { atStart code T (if (header code).1 > 1 && !((header code).2 != 0 && code.getD 2 0 &&& 5 != 0) then max s (T.size - ((header code).1 - 1)) else T.size) ma s true (Array.replicate (2 * g) none) with seen:=sn }:=by
 refine ⟨if (header code).2 == 0 then {} else ({}:Seen).add 14,?_⟩
 unfold forSearch
 simp only
 rw [if_neg (by simp only [Bool.or_eq_true,decide_eq_true_eq,not_or]; exact ⟨by lia,h2⟩)]
 unfold M.attemptFrom
 have e:∀ m:M,m.code = code -> m.hasFirstSet = false:=fun m hm => by
  unfold M.hasFirstSet; rw [hm]
  exact (Bool.not_eq_true' _).mp hset
 rw [e _ rfl]
 dsimp only [Bool.not_false,if_true]
 unfold M.attemptAt
 rw [attempt_eq (by show 0 + 1 + 0 <= 16777216; decide)]
 rfl
theorem forSearch_short {code T:Array Nat} {g s:Nat} {ma:Bool} (h2:s > T.size \/ T.size - s < (header code).1):RxRes 1 (forSearch code T g s T.size ma) none:=by
 have h3:(decide (s > T.size) || decide (T.size - s < (header code).1)) = true:=by simpa using h2
 refine RxRes.of (k:=1) (a:=(base code T 0 ma s s s true (Array.replicate (2 * g) none) (-1) (-1)).say false) (sn:=if (header code).2 == 0 then {} else ({}:Seen).add 14) (.none (end_no rfl rfl rfl) rfl) ?_
 unfold forSearch
 simp only
 rw [if_pos h3]
 rfl
theorem plain_hset {code:Array Nat} (h:plainCode code = true):((match ops[code.getD 0 0]? with | some .INFO => true | _ => false) && code.getD 2 0 == 4) = false:=by
 exact (Bool.not_eq_true' _).mp h
theorem search_bos {code T:Array Nat} {g k n:Nat} {ma:Bool} {r:Hit} (hh:(header code).2 = 5) (hsz:5 < code.size) (h5:ops[code.getD 5 0]? = some .AT) (h6:code.getD 6 0 = 0) (hset:plainCode code = true)
  (h2:¬ T.size < (header code).1)
  (h:∀ ls,match r with
   | none => Fails k (atStart code T ls ma 0 true (Array.replicate (2 * g) none))
   | some (st,hd,mks,lm,li) => st = 0 /\ Wins k n (atStart code T ls ma 0 true (Array.replicate (2 * g) none)) hd mks lm li) :
  RxRes (k + n + 3 * T.size + 5) (forSearch code T g 0 T.size ma) r:=by
 obtain ⟨sn,e⟩:=forSearch_plain (g:=g) (ma:=ma) hset (Nat.zero_le _) (by rw [Nat.sub_zero]; exact h2)
 generalize hls:(if (header code).1 > 1 && !((header code).2 != 0 && code.getD 2 0 &&& 5 != 0) then max 0 (T.size - ((header code).1 - 1)) else T.size) = ls at e
 have hle:ls <= T.size:=by subst hls; split <;> (first | (exact Nat.sub_le _ _; done) | (exact Nat.le_refl _; done) | lia | omega)
 have h':=h ls
 cases r with
 | some q =>
  obtain ⟨st,hd,mks,lm,li⟩:=q
  obtain ⟨rfl,w⟩:=h'
  exact (RxRes.of w.ends e).le (by (simp +arith))
 | none =>
  by_cases h0:0 < ls
  ·refine xEA (g_next (plain_hset hset) h' h0) fun mks em gg => ?_
   have q:=search_ends (text:=T) (r:=none) (j:=3) (k:=1) (plain_hset hset) (2 * g) ls (ls - 1) 1 false false mks rfl (by (assumption)) (Nat.le_refl _) (em.trans Array.size_replicate) (fun s' ma first marks a b c => fails_bos hh hsz h5 h6 (by (assumption)))
    (fun ma' first' marks' z x y => g_over (fails_bos hh hsz h5 h6 (by (assumption))) (Nat.lt_irrefl _))
   exact (RxRes.of (EndsAs.of_G gg q) e).le (by lia)
  ·exact (RxRes.of (g_over h' h0) e).le (by (simp +arith))
structure Ok (C T:Array Nat) (a:M) (pc pos:Nat) (mks:Array (Option Nat)) (lm li:Int) (w:Nat):Prop extends At C T a pc pos where
 inner:a.inner = none
 weight:a.weight <= w
 pass:a.frames.all passing = true
 flen:a.frames.length <= w
 marks:a.marks = mks
 lm:a.lastmark = lm
 li:a.lastindex = li
section
variable {C T:Array Nat} {a:M} {pc pos k n w hd:Nat} {mks mks':Array (Option Nat)} {lm li lm' li':Int} {st:Nat}
theorem Ok.to (h:Ok C T a pc pos mks lm li w) (p q:Nat):Ok C T { a with pc:=p,pos:=q } p q mks lm li w:=⟨h.toAt.to p q,h.inner,h.weight,h.pass,h.flen,h.marks,h.lm,h.li⟩
theorem Ok.tail' (h:Ok C T a pc pos mks lm li w) (c:Nat) (kept:Sre.Kept) (hk:kept.marks = #[]) (m':Array (Option Nat)) (hd':Nat):Ok C T (tailOf { a with marks:=m',handed:=hd' } c kept) (pc + 1 + C.getD (pc + 1) 0) (pos + c) m' lm li (w + 1):=
 ⟨At.tail (a:={ a with marks:=m',handed:=hd' }) ⟨h.code,h.text,h.lim,h.out,h.ans,h.pc,h.pos⟩ c _,h.inner,by show a.weight + 1 + kept.marks.size <= _; rw [hk]; exact Nat.succ_le_succ h.weight,
  by show (_ :: a.frames).all passing = true; rw [List.all_cons,h.pass]; rfl,Nat.succ_le_succ h.flen,rfl,h.lm,h.li⟩
theorem Ok.tail (h:Ok C T a pc pos mks lm li w) (c:Nat):Ok C T (tailOf a c (a.keep false)) (pc + 1 + C.getD (pc + 1) 0) (pos + c) mks lm li (w + 1):=by
 have q:=h.tail' c (a.keep false) rfl a.marks a.handed
 exact ⟨q.toAt,q.inner,q.weight,q.pass,q.flen,h.marks,q.lm,q.li⟩
theorem Ok.mark (h:Ok C T a pc pos mks lm li w) (i:Nat) (hi:(i:Int) <= lm + 1):Ok C T (a.mark i) (pc + 2) pos (mks.setIfInBounds i (some pos)) (max lm i) (if i % 2 == 1 then ((i / 2 + 1:Nat):Int) else li) w:=by
 refine ⟨h.toAt.mark i,h.inner,h.weight,h.pass,h.flen,?_,?_,?_⟩
 ·unfold M.mark
  simp only
  rw [if_pos (by rw [h.lm]; exact hi),h.marks,h.pos]
 ·show max a.lastmark i = _; rw [h.lm]
 ·show (if i % 2 == 1 then ((i / 2 + 1:Nat):Int) else a.lastindex) = _; rw [h.li]
theorem Ok.fl_rep {P:Nat -> Bool} (h:Ok C T a pc pos mks lm li w) (hs:pc < C.size) (hop:ops[C.getD pc 0]? = some .REPEAT_ONE) (hP:∀ c,Acc C (pc + 4) c (P c)) (hm:C.getD (pc + 3) 0 = 4294967295) (hp:pos <= T.size) (hT:T.size <= 4000000)
  (hw:w <= 1000) (h2:C.getD (pc + 2) 0 = 0 \/ C.getD (pc + 2) 0 = 1)
  (ht:∀ b c m',C.getD (pc + 2) 0 <= c -> c <= spanLen P T (T.size - pos) pos -> Ok C T b (pc + 1 + C.getD (pc + 1) 0) (pos + c) m' lm li (w + 1) -> b.loops = a.loops -> b.wholeText = a.wholeText -> b.mustAdvance = a.mustAdvance -> m'.size = mks.size -> Fails k b) :
  Fails (1 + (spanLen P T (T.size - pos) pos + 1) * (k + 1)) a:=
 Mine.fl_rep h.toAt hs hop hP hm hp hT h.inner (by have:=h.weight; lia) h2 fun c marks handed h1 h3 h4 => ht _ c marks h1 h3 (h.tail' c (a.keep false) rfl marks handed) rfl rfl rfl (by rw [h4,h.marks])
theorem Ok.wn_rep {P:Nat -> Bool} (h:Ok C T a pc pos mks lm li w) (hs:pc < C.size) (hop:ops[C.getD pc 0]? = some .REPEAT_ONE) (hP:∀ c,Acc C (pc + 4) c (P c)) (hm:C.getD (pc + 3) 0 = 4294967295) (hp:pos <= T.size) (hT:T.size <= 4000000)
  (hw:w <= 1000) (hl:C.getD (pc + 2) 0 <= spanLen P T (T.size - pos) pos) (f:∀ b,Ok C T b (pc + 1 + C.getD (pc + 1) 0) (pos + spanLen P T (T.size - pos) pos) mks lm li (w + 1) -> b.start = a.start -> b.wholeText = a.wholeText -> b.mustAdvance = a.mustAdvance -> b.outermost = a.outermost -> b.loops = a.loops -> Wins k n b hd mks' lm' li'):Wins (1 + k) n a hd mks' lm' li':=by
 refine Mine.wn_rep h.toAt hs hop hP hm hp hT (by rw [h.inner]; show a.weight + 1 + 0 <= _; have:=h.weight; lia) hl ?_
 rw [h.inner]
 exact f _ (h.tail _) rfl rfl rfl rfl rfl
theorem Ok.wn_mark (h:Ok C T a pc pos mks lm li w) (hs:pc < C.size) (hop:ops[C.getD pc 0]? = some .MARK) (f:Wins k n (a.mark (C.getD (pc + 1) 0)) hd mks' lm' li'):Wins (1 + k) n a hd mks' lm' li':=Mine.wn_mark h.toAt hs hop f
theorem Ok.wn_success (h:Ok C T a pc pos mks lm li w) (hs:pc < C.size) (hop:ops[C.getD pc 0]? = some .SUCCESS) (hw:a.wholeText = false \/ pos = T.size) (hm:a.mustAdvance = false \/ a.start ≠ pos) (hn:w <= n):Wins 1 n a pos mks lm li:=by
 have q:=Mine.wn_success (n:=n) h.toAt hs hop hw hm h.pass (Nat.le_trans h.flen hn)
 rw [h.marks,h.lm,h.li] at q
 exact q
theorem Ok.start {ls:Nat} {ma first:Bool} {marks:Array (Option Nat)} {s p:Nat} (hh:(header C).2 = p):Ok C T (atStart C T ls ma s first marks) p s marks (-1) (-1) 1:=⟨⟨rfl,rfl,rfl,rfl,rfl,hh,rfl⟩,rfl,Nat.le_refl _,rfl,Nat.le_refl _,rfl,rfl,rfl⟩
end
section tok
variable {T:Array Nat}
noncomputable def tokB (T:Array Nat):Nat:=spanLen isSp T T.size 0
noncomputable def tokN (T:Array Nat):Nat:=spanLen isTk T (T.size - tokB T) (tokB T)
theorem isTk_of_sp {c:Nat} (h:isSp c = true):isTk c = false:=by unfold isTk; rw [h]; simp
theorem tok_tail {a:M} {p:Nat} (hT:T.size <= 4000000) (h:At cTok T a 17 p) (hp:p <= T.size) (h0:spanLen isTk T (T.size - p) p = 0):Fails 2 a:=by
 refine (fl_mark (k:=1) h (by decide) rfl ?_)
 exact fl_rep_few (P:=isTk) (h.mark 0) (by decide) rfl acc_tk rfl hp hT (by rw [h0]; decide)
theorem tok_fails {a:M} {mks} {w:Nat} (hT:T.size <= 4000000) (h:Ok cTok T a 7 0 mks (-1) (-1) w) (hw:w <= 100) (h0:tokN T = 0):Fails (1 + (tokB T + 1) * (2 + 1)) a:=by
 have hB:tokB T <= T.size:=spanLen_le ..
 refine h.fl_rep (P:=isSp) (by decide) rfl acc_sp_tok rfl (Nat.zero_le _) hT (by lia) (.inl rfl) fun b c m' _ hc hb _ _ _ _ => ?_
 have A2:=hb.toAt
 rw [Nat.zero_add] at A2
 have hc':c <= tokB T:=hc
 refine tok_tail hT A2 (by (exact Nat.le_trans (by assumption) (by assumption))) ?_
 by_cases hcB:c = tokB T
 ·subst hcB; exact h0
 ·refine spanLen_zero (isTk_of_sp ?_)
  have:=spanLen_lt (P:=isSp) (text:=T) (n:=T.size) (p:=0) (c:=c) (by unfold tokB at hc' hcB; lia)
  rwa [Nat.zero_add] at this
theorem tok_wins {a:M} {mks} {w:Nat} (hT:T.size <= 4000000) (h:Ok cTok T a 7 0 mks (-1) (-1) w) (hw:w <= 50) (h0:¬ tokN T = 0) (hm:mks.size = 2) (h1:a.wholeText = false) (h2:a.mustAdvance = false) :
  Wins (1 + (1 + (1 + (1 + 1)))) 100 a (tokB T + tokN T) #[some (tokB T),some (tokB T + tokN T)] 1 1:=by
 have hB:tokB T <= T.size:=spanLen_le ..
 refine h.wn_rep (P:=isSp) (by decide) rfl acc_sp_tok rfl (Nat.zero_le _) hT (by lia) (Nat.zero_le _) fun b hb _ e1 e2 _ _ => ?_
 have eB:0 + spanLen isSp T (T.size - 0) 0 = tokB T:=by rw [Nat.zero_add,Nat.sub_zero]; rfl
 rw [eB] at hb
 refine hb.wn_mark (by decide) rfl ?_
 refine (hb.mark 0 (by decide)).wn_rep (P:=isTk) (by decide) rfl acc_tk rfl hB hT (by lia) (by show 1 <= tokN T; lia) fun b2 hb2 _ e3 e4 _ _ => ?_
 refine hb2.wn_mark (by decide) rfl ?_
 have A5:=hb2.mark 1 (by decide)
 have q:=A5.wn_success (n:=100) (by decide) rfl (.inl (e3.trans (e1.trans h1))) (.inl (e4.trans (e2.trans h2))) (by lia)
 rw [marks2 hm] at q
 exact q
theorem tok_search (hT:T.size <= 4000000):RxRes (10 * T.size + 200) (forSearch cTok T 1 0 T.size false)
  (if tokN T = 0 then none else some (0,tokB T + tokN T,#[some (tokB T),some (tokB T + tokN T)],1,1)):=by
 have hB:tokB T <= T.size:=spanLen_le ..
 by_cases h1:T.size < 1
 ·have:tokN T = 0:=by
   have:=spanLen_le isTk T (T.size - tokB T) (tokB T)
   unfold tokN; lia
  rw [if_pos this]
  exact (forSearch_short (Or.inr (by rw [Nat.sub_zero]; exact h1))).le (by (exact Nat.le_add_left _ _))
 ·by_cases h0:tokN T = 0
  ·rw [if_pos h0]
   refine (search_bos (k:=1 + (1 + (tokB T + 1) * (2 + 1))) (n:=0) (r:=none) rfl (by decide) rfl rfl rfl h1 fun ls => ?_).le (by lia)
   exact fl_then (pc:=7) (pos:=0) (g_bos rfl (by decide) rfl rfl) (tok_fails hT ((Ok.start (p:=5) rfl).to 7 0) (by (exact Nat.le_add_left _ _)) h0)
  ·rw [if_neg h0]
   refine (search_bos (k:=1 + (1 + (1 + (1 + (1 + 1))))) (n:=100) (r:=some (0,tokB T + tokN T,#[some (tokB T),some (tokB T + tokN T)],1,1)) rfl (by decide) rfl rfl rfl h1 fun ls => ⟨rfl,?_⟩).le (by (simp +arith))
   exact wn_then (pc:=7) (pos:=0) (g_bos rfl (by decide) rfl rfl) (tok_wins hT ((Ok.start (p:=5) rfl).to 7 0) (by (exact Nat.le_add_left _ _)) h0 Array.size_replicate rfl rfl)
end tok
section val
variable {T:Array Nat}
theorem sp61:isSp 61 = false:=by decide +kernel
theorem sp34:isSp 34 = false:=by decide +kernel
noncomputable def valE (T:Array Nat):Nat:=spanLen isSp T T.size 0
noncomputable def valB (T:Array Nat):Nat:=valE T + 1 + spanLen isSp T (T.size - (valE T + 1)) (valE T + 1)
noncomputable def valN (T:Array Nat):Nat:=spanLen isV T (T.size - valB T) (valB T)
noncomputable def hasEq (T:Array Nat):Bool:=decide (valE T < T.size) && T.getD (valE T) 0 == 61
theorem spanLen_fit {P:Nat -> Bool} {p:Nat} (h:p <= T.size):p + spanLen P T (T.size - p) p <= T.size:=by
 have:=spanLen_le P T (T.size - p) p
 lia
theorem eq_no {C:Array Nat} {a:M} {c:Nat} (h:At C T a 17 c) (hs:17 < C.size) (hop:ops[C.getD 17 0]? = some .LITERAL) (hw:C.getD (17 + 1) 0 = 61) (hc:c <= valE T) (hno:c = valE T -> hasEq T = false):Fails 1 a:=by
 refine fl_one (op:=.LITERAL) h hs hop rfl ?_
 by_cases hce:c = valE T
 ·subst hce
  have q:=hno rfl
  unfold hasEq at q
  rw [Bool.and_eq_false_iff] at q
  rcases q with q | q
  ·left; exact Nat.le_of_not_lt (of_decide_eq_false q)
  ·right
   have:=acc_lit hop hw (T.getD (valE T) 0)
   rw [q] at this
   exact this
 ·right
  have q:isSp (T.getD c 0) = true:=by
   have:=spanLen_lt (P:=isSp) (text:=T) (n:=T.size) (p:=0) (c:=c) (by unfold valE at hc hce; lia)
   rwa [Nat.zero_add] at this
  have ne:(T.getD c 0 == 61) = false:=by
   rw [beq_eq_false_iff_ne]; intro e; rw [e,sp61] at q; cases q
  have:=acc_lit hop hw (T.getD c 0)
  rw [ne] at this
  exact this
theorem val_fails {a:M} {mks} {w:Nat} (hT:T.size <= 10000) (h:Ok cVal T a 7 0 mks (-1) (-1) w) (hw:w <= 100) (h0:hasEq T = false):Fails (1 + (valE T + 1) * (1 + 1)) a:=by
 refine h.fl_rep (P:=isSp) (by decide) rfl acc_sp_val1 rfl (Nat.zero_le _) (by lia) (by lia) (.inl rfl) fun b c m' _ hc hb _ _ _ _ => ?_
 have A2:=hb.toAt
 rw [Nat.zero_add] at A2
 exact eq_no A2 (by decide) rfl rfl hc fun _ => h0
theorem val_wins {a:M} {mks} {w:Nat} (hT:T.size <= 10000) (h:Ok cVal T a 7 0 mks (-1) (-1) w) (hw:w <= 50) (h0:hasEq T = true) (hm:mks.size = 2) (h1:a.wholeText = false) (h2:a.mustAdvance = false) :
  Wins (1 + (1 + (1 + (1 + (1 + (1 + 1)))))) 100 a (valB T + valN T) #[some (valB T),some (valB T + valN T)] 1 1:=by
 unfold hasEq at h0
 rw [Bool.and_eq_true,decide_eq_true_eq] at h0
 refine h.wn_rep (P:=isSp) (by decide) rfl acc_sp_val1 rfl (Nat.zero_le _) (by lia) (by lia) (Nat.zero_le _) fun b hb _ e1 e2 _ _ => ?_
 have eB:0 + spanLen isSp T (T.size - 0) 0 = valE T:=by rw [Nat.zero_add,Nat.sub_zero]; rfl
 rw [eB] at hb
 have acc:=acc_lit (code:=cVal) (i:=17) (w:=61) rfl rfl (T.getD (valE T) 0)
 rw [h0.2] at acc
 refine wn_then (pc:=19) (pos:=valE T + 1) (g_one' (op:=.LITERAL) hb.toAt (by decide) rfl rfl h0.1 acc) ?_
 have hb1:=hb.to 19 (valE T + 1)
 refine hb1.wn_rep (P:=isSp) (by decide) rfl acc_sp_val2 rfl (by lia) (by lia) (by lia) (Nat.zero_le _) fun b2 hb2 _ e3 e4 _ _ => ?_
 refine hb2.wn_mark (by decide) rfl ?_
 refine (hb2.mark 0 (by decide)).wn_rep (P:=isV) (by decide) rfl acc_v rfl (spanLen_fit (by lia)) (by lia) (by lia) (Nat.zero_le _) fun b3 hb3 _ e5 e6 _ _ => ?_
 refine hb3.wn_mark (by decide) rfl ?_
 have A5:=hb3.mark 1 (by decide)
 have q:=A5.wn_success (n:=100) (by decide) rfl (.inl (e5.trans (e3.trans (e1.trans h1)))) (.inl (e6.trans (e4.trans (e2.trans h2)))) (by lia)
 rw [marks2 hm] at q
 exact q
theorem val_search (hT:T.size <= 10000):RxRes (10 * T.size + 200) (forSearch cVal T 1 0 T.size false)
  (if hasEq T then some (0,valB T + valN T,#[some (valB T),some (valB T + valN T)],1,1) else none):=by
 have hB:valE T <= T.size:=spanLen_le ..
 by_cases h1:T.size < 1
 ·have:hasEq T = false:=by
   unfold hasEq
   rw [decide_eq_false (by lia)]; rfl
  rw [this]
  exact (forSearch_short (Or.inr (by rw [Nat.sub_zero]; exact h1))).le (by (exact Nat.le_add_left _ _))
 ·cases h0:hasEq T
  ·refine (search_bos (k:=1 + (1 + (valE T + 1) * (1 + 1))) (n:=0) (r:=none) rfl (by decide) rfl rfl rfl h1 fun ls => ?_).le (by lia)
   exact fl_then (pc:=7) (pos:=0) (g_bos rfl (by decide) rfl rfl) (val_fails hT ((Ok.start (p:=5) rfl).to 7 0) (by (exact Nat.le_add_left _ _)) h0)
  ·refine (search_bos (k:=1 + (1 + (1 + (1 + (1 + (1 + (1 + 1))))))) (n:=100) (r:=some (0,valB T + valN T,#[some (valB T),some (valB T + valN T)],1,1)) rfl (by decide) rfl rfl rfl h1 fun ls => ⟨rfl,?_⟩).le (by (simp +arith))
   exact wn_then (pc:=7) (pos:=0) (g_bos rfl (by decide) rfl rfl) (val_wins hT ((Ok.start (p:=5) rfl).to 7 0) (by (exact Nat.le_add_left _ _)) h0 Array.size_replicate rfl rfl)
end val
section junk
variable {T:Array Nat}
noncomputable def junkN (T:Array Nat):Nat:=spanLen isJunk T T.size 0
theorem junk_search (hT:T.size <= 10000):RxRes (10 * T.size + 200) (forSearch cJunk T 0 0 T.size false) (some (0,junkN T,#[],-1,-1)):=by
 refine (search_bos (k:=1 + (1 + 1)) (n:=100) (r:=some (0,junkN T,#[],-1,-1)) rfl (by decide) rfl rfl rfl (Nat.not_lt_zero _) fun ls => ⟨rfl,?_⟩).le (by (simp +arith))
 refine wn_then (pc:=7) (pos:=0) (g_bos rfl (by decide) rfl rfl) ?_
 refine ((Ok.start (p:=5) rfl).to 7 0).wn_rep (P:=isJunk) (by decide) rfl acc_junk rfl (Nat.zero_le _) (by lia) (by (exact Nat.le_add_left _ _)) (Nat.zero_le _) fun b hb _ e1 e2 _ _ => ?_
 rw [Nat.zero_add,Nat.sub_zero] at hb
 exact hb.wn_success (by decide) rfl (.inl e1) (.inl e2) (by (exact Nat.le_add_left _ _))
theorem junk_later {s:Nat} (hs:0 < s) (hle:s <= T.size):RxRes (10 * T.size + 200) (forSearch cJunk T 0 s T.size false) none:=by
 obtain ⟨sn,e⟩:=forSearch_plain (code:=cJunk) (g:=0) (ma:=false) rfl hle (Nat.not_lt_zero _)
 have e2:(if (header cJunk).1 > 1 && !((header cJunk).2 != 0 && cJunk.getD 2 0 &&& 5 != 0) then max s (T.size - ((header cJunk).1 - 1)) else T.size) = T.size:=if_neg (by decide)
 rw [e2] at e
 have q:=search_ends (code:=cJunk) (text:=T) (r:=none) (j:=3) (k:=1) (ls:=T.size) (plain_hset (code:=cJunk) rfl) 0 T.size (T.size - s) s false true (Array.replicate (2 * 0) none) rfl hle (Nat.le_refl _) rfl
  (fun s' ma first marks a b c => fails_bos rfl (by decide) rfl rfl (by (exact Nat.lt_of_lt_of_le (by assumption) (by assumption))))
  (fun ma' first' marks' z x y => g_over (fails_bos rfl (by decide) rfl rfl (by (exact Nat.lt_of_lt_of_le (by assumption) (by assumption)))) (Nat.lt_irrefl _))
 exact (RxRes.of q e).le (by lia)
end junk
section jtok
variable {T:Array Nat}
theorem jt_full (hT:T.size <= 10000):RxRes (10 * T.size + 200) (forMatch cJTok T 0 0 T.size true false)
  (if T.size ≠ 0 /\ spanLen isJt T T.size 0 = T.size then some (0,T.size,#[],-1,-1) else none):=by
 have hle:spanLen isJt T T.size 0 <= T.size:=spanLen_le ..
 by_cases h1:T.size < 1
 ·rw [if_neg (by lia)]
  refine (RxRes.of (k:=1) (a:=({ base cJTok T 0 false 0 0 0 true (Array.replicate (2 * 0) none) (-1) (-1) with wholeText:=true }:M).say false) (sn:=({}:Seen).add 14) (.none (end_no rfl rfl rfl) rfl) ?_).le (by (exact Nat.le_add_left _ _))
  unfold forMatch
  dsimp only
  rw [if_pos (by
   have:T.size = 0:=by lia
   rw [this]; decide)]
  rfl
 ·have e:forMatch cJTok T 0 0 T.size true false = { ({ base cJTok T 0 false 0 0 0 true (Array.replicate (2 * 0) none) (-1) (-1) with wholeText:=true }:M) with seen:=({}:Seen).add 14 }:=by
   unfold forMatch
   dsimp only
   rw [if_neg (by
    simp only [Bool.and_eq_true,decide_eq_true_eq]
    intro h
    have:T.size - 0 < 1:=h.2
    lia)]
   rfl
  have O:Ok cJTok T ({ base cJTok T 0 false 0 0 0 true (Array.replicate (2 * 0) none) (-1) (-1) with wholeText:=true }:M) 5 0 #[] (-1) (-1) 0:=⟨⟨rfl,rfl,rfl,rfl,rfl,rfl,rfl⟩,rfl,Nat.le_refl _,rfl,Nat.le_refl _,rfl,rfl,rfl⟩
  by_cases h2:spanLen isJt T T.size 0 = T.size
  ·rw [if_pos ⟨by lia,h2⟩]
   have w:Wins (1 + 1) 100 ({ base cJTok T 0 false 0 0 0 true (Array.replicate (2 * 0) none) (-1) (-1) with wholeText:=true }:M) T.size #[] (-1) (-1):=by
    refine O.wn_rep (P:=isJt) (by decide) rfl acc_jt rfl (Nat.zero_le _) (by lia) (by (exact Nat.zero_le _)) (by rw [Nat.sub_zero]; show 1 <= _; lia) fun b hb e0 e1 e2 _ _ => ?_
    rw [Nat.zero_add,Nat.sub_zero,h2] at hb
    exact hb.wn_success (by decide) rfl (.inr rfl) (.inl e2) (by (exact Nat.le_add_left _ _))
   exact (RxRes.of w.ends e).le (by (exact Nat.le_add_left _ _))
  ·rw [if_neg (by lia)]
   have f:Fails (1 + (spanLen isJt T (T.size - 0) 0 + 1) * (1 + 1)) ({ base cJTok T 0 false 0 0 0 true (Array.replicate (2 * 0) none) (-1) (-1) with wholeText:=true }:M):=by
    refine fl_rep (P:=isJt) O.toAt (by decide) rfl acc_jt rfl (Nat.zero_le _) (by lia) rfl (by show 0 + 1 <= 16777216; decide) (.inr rfl) fun c marks handed _ hc _ => ?_
    rw [Nat.sub_zero] at hc
    exact fl_success (At.tail (C:=cJTok) (T:=T) (pc:=5) (pos:=0) (a:={ ({ base cJTok T 0 false 0 0 0 true (Array.replicate (2 * 0) none) (-1) (-1) with wholeText:=true }:M) with marks,handed }) ⟨rfl,rfl,rfl,rfl,rfl,rfl,rfl⟩ c _) (by decide) rfl rfl rfl (by rw [Nat.zero_add]; lia)
   refine xEEEEEEEA (f) fun pc pos hd om mks lm li em g => ?_
   have g2:=end_no (m:=noOf ({ base cJTok T 0 false 0 0 0 true (Array.replicate (2 * 0) none) (-1) (-1) with wholeText:=true }:M) pc pos hd om mks lm li) rfl rfl rfl
   exact (RxRes.of (.none (g.trans g2) rfl) e).le (by rw [Nat.sub_zero]; lia)
end jtok
structure Lp (T:Array Nat) (a:M) (pc pos:Nat) (b0:Option Nat) (cnt:Int) (bg:Option Nat):Prop extends At cQuo T a pc pos where
 inner:a.inner = some 0
 loops:a.loops = #[{ pc:=46,count:=cnt,began:=bg,outer:=none }]
 pass:a.frames.all passing = true
 msz:a.marks.size = 2
 m0:a.marks.getD 0 none = b0
 lm:a.lastmark = 0
 li:a.lastindex = -1
 whole:a.wholeText = false
 must:a.mustAdvance = false
section
variable {T:Array Nat} {a:M} {p:Nat} {b0:Option Nat} {cnt:Int} {bg:Option Nat}
theorem keep_marks {a:M} (hs:a.marks.size = 2) (h0:a.marks.getD 0 none = b0) (hl:a.lastmark = 0):(a.keep true).marks = #[b0]:=by
 show a.marks.extract 0 (a.lastmark + 1).toNat = _
 rw [hl]
 generalize a.marks = mks at hs h0
 obtain ⟨x,y,rfl⟩:=pair2 hs
 obtain rfl:x = b0:=h0
 rfl
theorem back_marks {mk:Array (Option Nat)} (h:mk.size = 2) (b0:Option Nat):(#[b0] ++ mk.extract (#[b0]:Array (Option Nat)).size mk.size).size = 2 /\ (#[b0] ++ mk.extract (#[b0]:Array (Option Nat)).size mk.size).getD 0 none = b0:=by
 obtain ⟨x,y,rfl⟩:=pair2 h
 exact ⟨rfl,rfl⟩
theorem set_mark {mk:Array (Option Nat)} {b0:Option Nat} (h:mk.size = 2) (h0:mk.getD 0 none = b0) (q:Option Nat):mk.setIfInBounds 1 q = #[b0,q]:=by
 obtain ⟨x,y,rfl⟩:=pair2 h
 obtain rfl:x = b0:=h0
 rfl
theorem resume_gb (m:M) (f:Sre.Frame) (hw:f.wait = .giveBack):M.resume m f false =
  if f.count - 1 < (m.word 2:Nat) then (m.putBack f.kept).say false else ({ m.putBack f.kept with pos:=f.pos - 1 }:M).afterRun .giveBack (f.count - 1) f.kept:=by
 obtain ⟨w,pc,pos,om,count,kept,loop,began⟩:=f
 have:w = .giveBack:=hw
 subst this
 rfl
theorem g_back_w {a:M} {c:Nat} {pc pos handed:Nat} {om:Bool} {marks:Array (Option Nat)} {lm li:Int}
  (ho:a.outcome = none) (hans:a.answer = none) (hs:a.marks.size = 2) (h0:a.marks.getD 0 none = b0) (hl:a.lastmark = 0) (hw:a.weight + 2 <= 16777216)
  (hc:a.word 2 <= c) :
  G 1 (noOf (tailOf a (c + 1) (a.keep true)) pc pos handed om marks lm li)
   (tailOf { a with marks:=#[b0] ++ marks.extract (#[b0]:Array (Option Nat)).size marks.size,handed:=handed } c (a.keep true)):=by
 have hk:=keep_marks hs h0 hl
 refine G.one fun sn => ?_
 rw [step_pop (m:={ noOf (tailOf a (c + 1) (a.keep true)) pc pos handed om marks lm li with seen:=sn }) (f:={ M.frame { a with pos:=a.pos + (c + 1) } .giveBack with count:=((c + 1:Nat):Int),kept:=a.keep true }) (rest:=a.frames) (b:=false) ho rfl rfl]
 have h1:¬ (((c + 1:Nat):Int) - 1 < (a.word 2:Nat)):=by lia
 rw [resume_gb _ _ rfl,if_neg (by exact h1)]
 unfold M.afterRun
 rw [attempt_eq (by
  simp only [popped,noOf,tailOf,att,M.frame,M.putBack]
  rw [hk]
  show a.weight + 1 + 1 - (1 + 1) + 1 + 1 <= _
  (assumption))]
 refine ⟨sn,?_⟩
 have e1:((c + 1:Nat):Int) - 1 = (c:Int):=by (simp +arith)
 have e2:a.weight + 1 + 1 - (1 + 1) = a.weight:=by (rfl)
 have e3:a.pos + (c + 1) - 1 = a.pos + c:=by (rfl)
 have e4:(a.keep true).whole = true:=rfl
 have e5:(a.keep true).lastmark = a.lastmark:=rfl
 have e6:(a.keep true).lastindex = a.lastindex:=rfl
 have e7:(#[b0]:Array (Option Nat)).size = 1:=rfl
 simp only [popped,noOf,tailOf,att,M.frame,M.putBack,e1,e3,M.word,hk,e4,e5,e6,e7,e2,hans,if_true]
theorem g_back_w_end {a:M} {c:Nat} {pc pos handed:Nat} {om:Bool} {marks:Array (Option Nat)} {lm li:Int}
  (ho:a.outcome = none) (hs:a.marks.size = 2) (h0:a.marks.getD 0 none = b0) (hl:a.lastmark = 0)
  (hc:(c:Int) - 1 < a.word 2) :
  G 1 (noOf (tailOf a c (a.keep true)) pc pos handed om marks lm li) (noOf a a.pc (a.pos + c) handed a.outermost (#[b0] ++ marks.extract (#[b0]:Array (Option Nat)).size marks.size) a.lastmark a.lastindex):=by
 have hk:=keep_marks hs h0 hl
 refine G.one fun sn => ?_
 rw [step_pop (m:={ noOf (tailOf a c (a.keep true)) pc pos handed om marks lm li with seen:=sn }) (f:={ M.frame { a with pos:=a.pos + c } .giveBack with count:=(c:Int),kept:=a.keep true }) (rest:=a.frames) (b:=false) ho rfl rfl]
 rw [resume_gb _ _ rfl,if_pos (by exact hc)]
 refine ⟨sn,?_⟩
 have e2:a.weight + 1 + 1 - (1 + 1) = a.weight:=by (rfl)
 have e4:(a.keep true).whole = true:=rfl
 have e5:(a.keep true).lastmark = a.lastmark:=rfl
 have e6:(a.keep true).lastindex = a.lastindex:=rfl
 have e7:(#[b0]:Array (Option Nat)).size = 1:=rfl
 simp only [popped,noOf,tailOf,att,M.frame,M.putBack,M.say,hk,e4,e5,e6,e7,e2,if_true]
theorem fails_tails_w {k:Nat} (ho:a.outcome = none) (hans:a.answer = none) (hs:a.marks.size = 2) (h0:a.marks.getD 0 none = b0) (hl:a.lastmark = 0) (hw:a.weight + 2 <= 16777216) (h2:a.word 2 = 0) :
  ∀ (c:Nat),(∀ c' marks handed,c' <= c -> marks.size = 2 -> marks.getD 0 none = b0 -> Fails k (tailOf { a with marks,handed } c' (a.keep true))) ->
   ∀ marks handed,marks.size = 2 -> marks.getD 0 none = b0 -> ∃ pc pos handed' om marks' lm li,marks'.size = 2 /\ G ((c + 1) * (k + 1)) (tailOf { a with marks,handed } c (a.keep true)) (noOf a pc pos handed' om marks' lm li):=by
 intro c
 induction c with
 | zero =>
  intro h marks handed hm hm0
  refine xEEEEEEEA (h 0 marks handed (Nat.le_refl _) hm hm0) fun pc pos hd om mk lm li e g => ?_
  have ek:(M.keep { a with marks,handed } true) = a.keep true:=by
   have q1:=keep_marks (a:={ a with marks,handed }) hm hm0 hl
   have q2:=keep_marks hs h0 hl
   have:(M.keep { a with marks,handed } true) = { lastmark:=a.lastmark,lastindex:=a.lastindex,whole:=true,marks:=(M.keep { a with marks,handed } true).marks }:=rfl
   rw [this,q1]
   have:(a.keep true) = { lastmark:=a.lastmark,lastindex:=a.lastindex,whole:=true,marks:=(a.keep true).marks }:=rfl
   rw [this,q2]
  have g2:=g_back_w_end (a:={ a with marks,handed }) (c:=0) (b0:=b0) (pc:=pc) (pos:=pos) (handed:=hd) (om:=om) (marks:=mk) (lm:=lm) (li:=li) ho hm hm0 hl (by show ((0:Nat):Int) - 1 < (a.word 2:Nat); (simp +arith))
  rw [ek] at g2
  exact ⟨_,_,_,_,_,_,_,(back_marks (e.trans hm) b0).1,(g.trans g2).le (by (simp +arith))⟩
 | succ c ih =>
  intro h marks handed hm hm0
  refine xEEEEEEEA (h (c + 1) marks handed (Nat.le_refl _) hm hm0) fun pc pos hd om mk lm li e g => ?_
  have ek:(M.keep { a with marks,handed } true) = a.keep true:=by
   have q1:=keep_marks (a:={ a with marks,handed }) hm hm0 hl
   have q2:=keep_marks hs h0 hl
   have:(M.keep { a with marks,handed } true) = { lastmark:=a.lastmark,lastindex:=a.lastindex,whole:=true,marks:=(M.keep { a with marks,handed } true).marks }:=rfl
   rw [this,q1]
   have:(a.keep true) = { lastmark:=a.lastmark,lastindex:=a.lastindex,whole:=true,marks:=(a.keep true).marks }:=rfl
   rw [this,q2]
  have g2:=g_back_w (a:={ a with marks,handed }) (c:=c) (b0:=b0) (pc:=pc) (pos:=pos) (handed:=hd) (om:=om) (marks:=mk) (lm:=lm) (li:=li) ho hans hm hm0 hl hw (by show a.word 2 <= c; lia)
  rw [ek] at g2
  have bm:=back_marks (e.trans hm) b0
  refine xEEEEEEEA (ih (fun c' m' hd'' y z z' => h c' m' hd'' (Nat.le_succ_of_le y) z z') _ hd bm.1 bm.2) fun pc' pos' hd' om' mk' lm' li' e' g' => ?_
  refine ⟨pc',pos',hd',om',mk',lm',li',e',((g.trans g2).trans g').le ?_⟩
  rw [Nat.succ_mul (c + 1)]; (simp +arith)
end
theorem modify1 {α:Type} (x:α) (f:α -> α):(#[x]:Array α).modify 0 f = #[f x]:=by dsimp [Array.modify,Array.modifyM]
noncomputable abbrev lpL (cnt:Int) (bg:Option Nat):Array Loop:=#[{ pc:=46,count:=cnt,began:=bg,outer:=none }]
section
variable {T:Array Nat} {a:M} {p:Nat} {b0:Option Nat} {cnt:Int} {bg:Option Nat}
theorem Lp.eq {pc pos:Nat} (h:Lp T a pc pos b0 cnt bg):a = ⟨cQuo,T,T.size,a.start,a.lastStart,false,false,pc,pos,a.handed,a.outermost,a.marks,0,-1,lpL cnt bg,some 0,a.frames,a.weight,none,a.seen,none⟩:=by
 obtain ⟨⟨h1,h2,h3,h4,h5,h6,h7⟩,h8,h9,h10,h11,h12,h13,h14,h15,h16⟩:=h
 cases a
 simp_all
noncomputable def fMore (om:Bool) (kept:Sre.Kept) (p:Nat) (cnt:Int) (bg:Option Nat):Sre.Frame:={ wait:=.maxMore,pc:=67,pos:=p,outermost:=om,count:=cnt + 1,kept:=kept,loop:=0,began:=bg }
noncomputable def bOf (a:M) (p:Nat) (cnt:Int) (bg:Option Nat):M:=
 att { a with pc:=67,loops:=lpL (cnt + 1) (some p) } (fMore a.outermost (a.keep true) p cnt bg) 50 p a.outermost
theorem g_until (h:Lp T a 66 p b0 cnt bg) (hc:-1 <= cnt) (hb:bg ≠ some p) (hw:a.weight + 2 <= 16777216):G 1 a (bOf a p cnt bg):=by
 have key:∀ (st ls hd:Nat) (om:Bool) (mks:Array (Option Nat)) (fr:List Sre.Frame) (w:Nat) (sn0:Seen),w + 1 + (mks.extract 0 1).size <= 16777216 ->
   G 1 ⟨cQuo,T,T.size,st,ls,false,false,66,p,hd,om,mks,0,-1,lpL cnt bg,some 0,fr,w,none,sn0,none⟩ (bOf ⟨cQuo,T,T.size,st,ls,false,false,66,p,hd,om,mks,0,-1,lpL cnt bg,some 0,fr,w,none,sn0,none⟩ p cnt bg):=by
  intro st ls hd om mks fr w sn0 hw
  refine G.one fun sn => ⟨sn.add 18,?_⟩
  show M.until_ ⟨cQuo,T,T.size,st,ls,false,false,67,p,hd,om,mks,0,-1,lpL cnt bg,some 0,fr,w,none,sn.add 18,none⟩ true = _
  unfold M.until_
  dsimp only
  rw [if_neg (by show ¬ (cnt + 1 < (0:Int)); lia)]
  rw [if_neg (by decide)]
  rw [if_pos (by
   show ((decide (cnt + 1 < ((4294967295:Nat):Int)) || true) && (bg != some p)) = true
   rw [Bool.or_true,Bool.true_and]
   exact bne_iff_ne.mpr hb)]
  unfold M.round
  dsimp only [M.setLoop,modify1]
  rw [attempt_eq (by exact hw)]
  rfl
 have q:=key a.start a.lastStart a.handed a.outermost a.marks a.frames a.weight a.seen (by
  have:=keep_marks h.msz h.m0 h.lm
  have e:(a.keep true).marks = a.marks.extract 0 1:=by
   show a.marks.extract 0 (a.lastmark + 1).toNat = _
   rw [h.lm]; rfl
  rw [<- e,this]; exact hw)
 rw [<- h.eq] at q
 exact q
noncomputable def fTail (om:Bool) (kept:Sre.Kept) (p:Nat) (cnt:Int):Sre.Frame:={ wait:=.maxTail,pc:=67,pos:=p,outermost:=om,count:=cnt + 1,kept:=kept,loop:=0 }
noncomputable def tOf (a:M) (p:Nat) (cnt:Int) (bg:Option Nat) (marks:Array (Option Nat)) (handed:Nat):M:=
 att { a with pc:=67,inner:=none,marks:=marks,handed:=handed } (fTail a.outermost (a.keep false) p cnt) 67 p a.outermost
theorem g_body_no (h:Lp T a 66 p b0 cnt bg) (hw:a.weight + 2 <= 16777216) {pc pos hd:Nat} {om:Bool} {mks:Array (Option Nat)} {lm li:Int} :
  G 1 (noOf (bOf a p cnt bg) pc pos hd om mks lm li) (tOf a p cnt bg (#[b0] ++ mks.extract (#[b0]:Array (Option Nat)).size mks.size) hd):=by
 have ek:(a.keep true) = { lastmark:=0,lastindex:=-1,whole:=true,marks:=#[b0] }:=by
  have:(a.keep true) = { lastmark:=a.lastmark,lastindex:=a.lastindex,whole:=true,marks:=(a.keep true).marks }:=rfl
  rw [this,keep_marks h.msz h.m0 h.lm,h.lm,h.li]
 have ek2:(a.keep false) = { lastmark:=0,lastindex:=-1,whole:=false,marks:=#[] }:=by
  have:(a.keep false) = { lastmark:=a.lastmark,lastindex:=a.lastindex,whole:=false,marks:=#[] }:=rfl
  rw [this,h.lm,h.li]
 have key:∀ (st ls hd0:Nat) (om0:Bool) (mks0:Array (Option Nat)) (fr:List Sre.Frame) (w:Nat) (sn0:Seen),w + 2 <= 16777216 ->
   G 1 (noOf (att ⟨cQuo,T,T.size,st,ls,false,false,67,p,hd0,om0,mks0,0,-1,lpL (cnt + 1) (some p),some 0,fr,w,none,sn0,none⟩ (fMore om0 { lastmark:=0,lastindex:=-1,whole:=true,marks:=#[b0] } p cnt bg) 50 p om0) pc pos hd om mks lm li)
    (att ⟨cQuo,T,T.size,st,ls,false,false,67,p,hd,om0,#[b0] ++ mks.extract (#[b0]:Array (Option Nat)).size mks.size,0,-1,lpL cnt bg,none,fr,w,none,sn0,none⟩ (fTail om0 { lastmark:=0,lastindex:=-1,whole:=false,marks:=#[] } p cnt) 67 p om0):=by
  intro st ls hd0 om0 mks0 fr w sn0 hw
  refine G.one fun sn => ⟨sn,?_⟩
  rw [step_pop (m:={ noOf (att ⟨cQuo,T,T.size,st,ls,false,false,67,p,hd0,om0,mks0,0,-1,lpL (cnt + 1) (some p),some 0,fr,w,none,sn0,none⟩ (fMore om0 { lastmark:=0,lastindex:=-1,whole:=true,marks:=#[b0] } p cnt bg) 50 p om0) pc pos hd om mks lm li with seen:=sn }) (f:=fMore om0 { lastmark:=0,lastindex:=-1,whole:=true,marks:=#[b0] } p cnt bg) (rest:=fr) (b:=false) rfl rfl rfl]
  unfold M.resume
  dsimp only [fMore]
  rw [if_neg (by decide)]
  dsimp only [M.setLoop,popped,noOf,att,M.putBack,modify1,if_true]
  unfold M.afterLoop
  dsimp only [M.loopAt]
  have e2:w + 1 + 1 - (1 + 1) = w:=by (rfl)
  have e3:cnt + 1 - 1 = cnt:=by (simp +arith)
  rw [attempt_eq (by show w + 1 + 1 - (1 + 1) + 1 + 0 <= 16777216; (exact Nat.le_of_lt (by assumption)))]
  show att ⟨cQuo,T,T.size,st,ls,false,false,67,p,hd,om0,#[b0] ++ mks.extract (#[b0]:Array (Option Nat)).size mks.size,0,-1,lpL (cnt + 1 - 1) bg,none,fr,w + 1 + 1 - (1 + 1),none,sn,none⟩ (fTail om0 { lastmark:=0,lastindex:=-1,whole:=false,marks:=#[] } p cnt) 67 p om0 = _
  rw [e2,e3]
  rfl
 have q:=key a.start a.lastStart a.handed a.outermost a.marks a.frames a.weight a.seen hw
 have e1:bOf a p cnt bg = att ⟨cQuo,T,T.size,a.start,a.lastStart,false,false,67,p,a.handed,a.outermost,a.marks,0,-1,lpL (cnt + 1) (some p),some 0,a.frames,a.weight,none,a.seen,none⟩ (fMore a.outermost { lastmark:=0,lastindex:=-1,whole:=true,marks:=#[b0] } p cnt bg) 50 p a.outermost:=by
  unfold bOf
  rw [ek,h.code,h.text,h.lim,h.whole,h.must,h.pos,h.lm,h.li,h.inner,h.ans,h.out]
 have e2:tOf a p cnt bg (#[b0] ++ mks.extract (#[b0]:Array (Option Nat)).size mks.size) hd = att ⟨cQuo,T,T.size,a.start,a.lastStart,false,false,67,p,hd,a.outermost,#[b0] ++ mks.extract (#[b0]:Array (Option Nat)).size mks.size,0,-1,lpL cnt bg,none,a.frames,a.weight,none,a.seen,none⟩ (fTail a.outermost { lastmark:=0,lastindex:=-1,whole:=false,marks:=#[] } p cnt) 67 p a.outermost:=by
  unfold tOf
  rw [ek2,h.code,h.text,h.lim,h.whole,h.must,h.pos,h.lm,h.li,h.loops,h.ans,h.out]
 rw [e1,e2]
 exact q
theorem g_tail_no (h:Lp T a 66 p b0 cnt bg) {mks0:Array (Option Nat)} {hd0 pc pos hd:Nat} {om:Bool} {mks:Array (Option Nat)} {lm li:Int} :
  G 1 (noOf (tOf a p cnt bg mks0 hd0) pc pos hd om mks lm li) (noOf a 67 p hd a.outermost mks lm li):=by
 refine G.one fun sn => ⟨sn,?_⟩
 rw [step_pop (m:={ noOf (tOf a p cnt bg mks0 hd0) pc pos hd om mks lm li with seen:=sn }) (f:=fTail a.outermost (a.keep false) p cnt) (rest:=a.frames) (b:=false) h.out rfl rfl]
 unfold M.resume
 simp only [fTail]
 have e2:a.weight + 1 + 0 - (1 + 0) = a.weight:=by (simp +arith)
 simp only [popped,noOf,tOf,att,fTail,M.say,keep_false,Array.size_empty,e2,h.inner]
end
theorem Ok.wn_success' {C T:Array Nat} {a:M} {pc pos w n:Nat} {mks:Array (Option Nat)} {lm li:Int} (h:Ok C T a pc pos mks lm li w) (hs:pc < C.size) (hop:ops[C.getD pc 0]? = some .SUCCESS) (hw:a.wholeText = false \/ pos = T.size) (hm:a.mustAdvance = false \/ a.start ≠ pos) (hn:a.frames.length <= n):Wins 1 n a pos mks lm li:=by
 have q:=Mine.wn_success (n:=n) h.toAt hs hop hw hm h.pass hn
 rw [h.marks,h.lm,h.li] at q
 exact q
section
variable {T:Array Nat} {a:M} {p:Nat} {b0:Option Nat} {cnt:Int} {bg:Option Nat}
theorem Lp.to {pc pos:Nat} (h:Lp T a pc pos b0 cnt bg) (x y:Nat):Lp T { a with pc:=x,pos:=y } x y b0 cnt bg:=
 ⟨h.toAt.to x y,h.inner,h.loops,h.pass,h.msz,h.m0,h.lm,h.li,h.whole,h.must⟩
theorem Lp.body (h:Lp T a 66 p b0 cnt bg):Lp T (bOf a p cnt bg) 50 p b0 (cnt + 1) (some p):=
 ⟨⟨h.code,h.text,h.lim,h.out,h.ans,rfl,rfl⟩,h.inner,rfl,by show (_ :: a.frames).all passing = true; rw [List.all_cons,h.pass]; rfl,h.msz,h.m0,h.lm,h.li,h.whole,h.must⟩
theorem Lp.tail {pc pos:Nat} (h:Lp T a pc pos b0 cnt bg) (hpc:pc + 1 + cQuo.getD (pc + 1) 0 = 66) (c:Nat) (kept:Sre.Kept) (m':Array (Option Nat)) (hd':Nat) (hm:m'.size = 2) (hm0:m'.getD 0 none = b0):Lp T (tailOf { a with marks:=m',handed:=hd' } c kept) 66 (pos + c) b0 cnt bg:=by
 have q:=At.tail (a:={ a with marks:=m',handed:=hd' }) (C:=cQuo) (T:=T) (pc:=pc) (pos:=pos) ⟨h.code,h.text,h.lim,h.out,h.ans,h.pc,h.pos⟩ c kept
 rw [hpc] at q
 exact ⟨q,h.inner,h.loops,by show (_ :: a.frames).all passing = true; rw [List.all_cons,h.pass]; rfl,hm,hm0,h.lm,h.li,h.whole,h.must⟩
theorem tOf_at (h:Lp T a 66 p b0 cnt bg) (mks:Array (Option Nat)) (hd:Nat):Ok cQuo T (tOf a p cnt bg mks hd) 67 p mks 0 (-1) (max (a.weight + 1) (a.frames.length + 1)):=
 ⟨⟨h.code,h.text,h.lim,h.out,h.ans,rfl,rfl⟩,rfl,by show a.weight + 1 + 0 <= _; lia,by show (_ :: a.frames).all passing = true; rw [List.all_cons,h.pass]; rfl,by show a.frames.length + 1 <= _; lia,rfl,h.lm,h.li⟩
theorem rest_no (h:Lp T a 66 p b0 cnt bg) (hno:p ≥ T.size \/ T.getD p 0 ≠ 34) {mks:Array (Option Nat)} {hd:Nat}:Fails 2 (tOf a p cnt bg mks hd):=by
 have o:=tOf_at h mks hd
 refine fl_mark (k:=1) o.toAt (by decide) rfl ?_
 refine fl_one (op:=.LITERAL) (o.toAt.mark 1) (by decide) rfl rfl ?_
 rcases hno with x | x
 ·exact .inl x
 ·right
  have:=acc_lit (code:=cQuo) (i:=69) (w:=34) rfl rfl (T.getD p 0)
  rw [beq_eq_false_iff_ne.mpr x] at this
  exact this
theorem body_no {kB:Nat} (h:Lp T a 66 p b0 cnt bg) (hc:-1 <= cnt) (hb:bg ≠ some p) (hw:a.weight + 2 <= 16777216) (hB:Fails kB (bOf a p cnt bg)) (hno:p ≥ T.size \/ T.getD p 0 ≠ 34):Fails (kB + 5) a:=by
 have g1:=g_until h hc hb hw
 refine xEEEEEEEA (hB) fun pc pos hd om mks lm li e g => ?_
 have g2:=g_body_no h hw (pc:=pc) (pos:=pos) (hd:=hd) (om:=om) (mks:=mks) (lm:=lm) (li:=li)
 have em:mks.size = 2:=e.trans h.msz
 refine xEEEEEEEA (rest_no h hno (mks:=#[b0] ++ mks.extract (#[b0]:Array (Option Nat)).size mks.size) (hd:=hd)) fun pc' pos' hd' om' mks' lm' li' e' g' => ?_
 have g3:=g_tail_no h (mks0:=#[b0] ++ mks.extract (#[b0]:Array (Option Nat)).size mks.size) (hd0:=hd) (pc:=pc') (pos:=pos') (hd:=hd') (om:=om') (mks:=mks') (lm:=lm') (li:=li')
 refine ⟨_,_,_,_,_,_,_,?_,((((g1.trans g).trans g2).trans g').trans g3).le (by (simp +arith))⟩
 rw [h.msz]
 exact e'.trans (back_marks em b0).1
theorem body_no_win {kB N:Nat} (h:Lp T a 66 p b0 cnt bg) (hc:-1 <= cnt) (hb:bg ≠ some p) (hw:a.weight + 2 <= 16777216) (hB:Fails kB (bOf a p cnt bg)) (hp:p < T.size) (h34:T.getD p 0 = 34) (hN:a.frames.length + 1 <= N) :
  Wins (kB + 5) N a (p + 1) #[b0,some p] 1 1:=by
 have g1:=g_until h hc hb hw
 refine xEEEEEEEA (hB) fun pc pos hd om mks lm li e g => ?_
 have g2:=g_body_no h hw (pc:=pc) (pos:=pos) (hd:=hd) (om:=om) (mks:=mks) (lm:=lm) (li:=li)
 have em:mks.size = 2:=e.trans h.msz
 have bm:=back_marks em b0
 have o:=tOf_at h (#[b0] ++ mks.extract (#[b0]:Array (Option Nat)).size mks.size) hd
 have w:Wins (1 + (1 + 1)) N (tOf a p cnt bg (#[b0] ++ mks.extract (#[b0]:Array (Option Nat)).size mks.size) hd) (p + 1) #[b0,some p] 1 1:=by
  refine o.wn_mark (by decide) rfl ?_
  have o2:=o.mark 1 (by decide)
  have acc:=acc_lit (code:=cQuo) (i:=69) (w:=34) rfl rfl (T.getD p 0)
  rw [h34] at acc
  refine wn_then (pc:=71) (pos:=p + 1) (g_one' (op:=.LITERAL) o2.toAt (by decide) rfl rfl hp (by rw [h34]; exact acc)) ?_
  have o3:=o2.to 71 (p + 1)
  have q:=o3.wn_success' (n:=N) (by decide) rfl (.inl h.whole) (.inl h.must) (by show a.frames.length + 1 <= N; exact hN)
  rw [set_mark bm.1 bm.2] at q
  exact q
 exact (Wins.of_G ((g1.trans g).trans g2) rfl w).le (by (simp +arith)) (Nat.le_refl _)
theorem body_lit_no (h:Lp T a 66 p b0 cnt bg) (hno:p ≥ T.size \/ T.getD p 0 ≠ 92):Fails 1 (bOf a p cnt bg):=by
 refine fl_one (op:=.LITERAL) h.body.toAt (by decide) rfl rfl ?_
 rcases hno with x | x
 ·exact .inl x
 ·right
  have:=acc_lit (code:=cQuo) (i:=50) (w:=92) rfl rfl (T.getD p 0)
  rw [beq_eq_false_iff_ne.mpr x] at this
  exact this
theorem body_any_no (h:Lp T a 66 p b0 cnt bg) (hp:p < T.size) (h92:T.getD p 0 = 92) (hno:p + 1 ≥ T.size \/ T.getD (p + 1) 0 = 10):Fails (1 + 1) (bOf a p cnt bg):=by
 have acc:=acc_lit (code:=cQuo) (i:=50) (w:=92) rfl rfl (T.getD p 0)
 refine fl_then (pc:=52) (pos:=p + 1) (g_one' (op:=.LITERAL) h.body.toAt (by decide) rfl rfl hp (by rw [h92] at acc ⊢; exact acc)) ?_
 refine fl_one (op:=.ANY) (h.body.to 52 (p + 1)).toAt (by decide) rfl rfl ?_
 rcases hno with x | x
 ·exact .inl x
 ·right
  have:=acc_any (code:=cQuo) (i:=52) rfl (T.getD (p + 1) 0)
  rw [x] at this ⊢
  exact this
theorem loop_plain (h:Lp T a 66 p b0 cnt bg) (hc:-1 <= cnt) (hb:bg ≠ some p) (hw:a.weight + 2 <= 16777216) (hp:isQ (T.getD p 0) = true):Fails 6 a:=by
 have h1:T.getD p 0 ≠ 92:=fun e => by rw [e] at hp; cases hp
 have h2:T.getD p 0 ≠ 34:=fun e => by rw [e] at hp; cases hp
 exact body_no h hc hb hw (body_lit_no h (.inr h1)) (.inr h2)
noncomputable def qClose (T:Array Nat):Nat -> Nat -> Option Nat
 | 0,_ => none
 | n + 1,p => if p < T.size then
   if T.getD p 0 = 34 then some p
   else if T.getD p 0 = 92 /\ p + 1 < T.size /\ T.getD (p + 1) 0 ≠ 10 then qClose T n (p + 2 + spanLen isQ T (T.size - (p + 2)) (p + 2))
   else none
  else none
theorem qClose_succ {T:Array Nat} {n p:Nat}:qClose T (n + 1) p = if p < T.size then (if T.getD p 0 = 34 then some p else if T.getD p 0 = 92 /\ p + 1 < T.size /\ T.getD (p + 1) 0 ≠ 10 then qClose T n (p + 2 + spanLen isQ T (T.size - (p + 2)) (p + 2)) else none) else none:=rfl
theorem loop_ends (hT:T.size <= 10000) {N:Nat}:∀ (n p:Nat) (a:M) (cnt:Int) (bg:Option Nat),T.size - p < n -> p <= T.size -> Lp T a 66 p b0 cnt bg -> -1 <= cnt -> (∀ b,bg = some b -> b < p) ->
  a.weight + 2 * (T.size - p) + 6 <= 16777216 -> a.frames.length + (T.size - p) + 3 <= N ->
  match qClose T n p with
  | some e => Wins (12 * (T.size - p) + 12) N a (e + 1) #[b0,some e] 1 1
  | none => Fails (12 * (T.size - p) + 12) a
 | 0,_,_,_,_,hn,_,_,_,_,_,_ => absurd hn (Nat.not_lt_zero _)
 | n + 1,p,a,cnt,bg,hn,hp,h,hc,hbg,hw,hN => by
  have hb:bg ≠ some p:=fun e => absurd (hbg p e) (Nat.lt_irrefl _)
  rw [qClose_succ]
  by_cases hps:p < T.size
  ·rw [if_pos hps]
   by_cases h34:T.getD p 0 = 34
   ·rw [if_pos h34]
    exact (body_no_win h hc hb (by lia) (body_lit_no h (.inr (by rw [h34]; decide))) hps h34 (by lia)).le (by (exact Nat.le_add_left _ _)) (Nat.le_refl _)
   ·rw [if_neg h34]
    by_cases hx:T.getD p 0 = 92 /\ p + 1 < T.size /\ T.getD (p + 1) 0 ≠ 10
    ·rw [if_pos hx]
     refine xAA (hx) fun h92 hp1 h10 => ?_
     have acc:=acc_lit (code:=cQuo) (i:=50) (w:=92) rfl rfl (T.getD p 0)
     have gL:=g_one' (op:=.LITERAL) h.body.toAt (by decide) rfl rfl hps (by rw [h92] at acc ⊢; exact acc)
     have acc2:=acc_any (code:=cQuo) (i:=52) rfl (T.getD (p + 1) 0)
     rw [bne_iff_ne.mpr h10] at acc2
     have gA:=g_one' (op:=.ANY) (h.body.to 52 (p + 1)).toAt (by decide) rfl rfl hp1 acc2
     have D:=(h.body.to 52 (p + 1)).to 53 (p + 1 + 1)
     have hsp:p + 2 + spanLen isQ T (T.size - (p + 2)) (p + 2) <= T.size:=spanLen_fit (by (assumption))
     have eS:=step_size hsp
     generalize hD:({ ({ bOf a p cnt bg with pc:=52,pos:=p + 1 }:M) with pc:=53,pos:=p + 1 + 1 }:M) = d at D
     have ed:({ ({ bOf a p cnt bg with pc:=52,pos:=p + 1 }:M) with pc:=52 + itemWidth cQuo 52,pos:=p + 1 + 1 }:M) = d:=hD
     rw [ed] at gA
     have gLA:=gL.trans gA
     have hdw:d.weight = a.weight + 2:=by
      rw [<- hD]
      show a.weight + 1 + (a.keep true).marks.size = _
      rw [keep_marks h.msz h.m0 h.lm]; rfl
     have hdf:d.frames.length = a.frames.length + 1:=by rw [<- hD]; rfl
     have hds:d.start = a.start:=by rw [<- hD]; rfl
     have hdk:(d.keep d.inner.isSome) = d.keep true:=by rw [D.inner]; rfl
     have gR:=g_rep' (P:=isQ) D.toAt (by decide) rfl acc_q2 rfl (by (assumption)) (by lia) (by rw [hdk,keep_marks D.msz D.m0 D.lm,hdw]; show a.weight + 2 + 1 + 1 <= _; lia) (Nat.zero_le _)
     rw [hdk] at gR
     have U:∀ c m' hd',m'.size = 2 -> m'.getD 0 none = b0 -> Lp T (tailOf { d with marks:=m',handed:=hd' } c (d.keep true)) 66 (p + 1 + 1 + c) b0 (cnt + 1) (some p):=fun c m' hd' x y => D.tail rfl c _ m' hd' x y
     have U0:Lp T (tailOf d (spanLen isQ T (T.size - (p + 1 + 1)) (p + 1 + 1)) (d.keep true)) 66 (p + 1 + 1 + spanLen isQ T (T.size - (p + 1 + 1)) (p + 1 + 1)) b0 (cnt + 1) (some p):=U _ d.marks d.handed D.msz D.m0
     have ih:=loop_ends hT n _ _ _ _ (ar1 hn eS) hsp U0 (by lia) (fun b hb => by cases hb; (simp +arith))
      (by
       show d.weight + 1 + (d.keep true).marks.size + _ + 6 <= _
       rw [keep_marks D.msz D.m0 D.lm,hdw]
       exact ar2 hw eS)
      (by show d.frames.length + 1 + _ + 3 <= N; rw [hdf]; exact ar3 hN eS)
     cases hq:qClose T n (p + 2 + spanLen isQ T (T.size - (p + 2)) (p + 2)) with
     | some e =>
      rw [hq] at ih
      simp only at ih ⊢
      have g0:=(g_until h hc hb (by lia)).trans (gLA.trans gR)
      exact (Wins.of_G g0 hds ih).le (ar4 eS) (Nat.le_refl _)
     | none =>
      rw [hq] at ih
      simp only at ih ⊢
      have hB:Fails (2 + 1 + (12 * (T.size - (p + 2 + spanLen isQ T (T.size - (p + 2)) (p + 2))) + 12) + 1 + spanLen isQ T (T.size - (p + 2)) (p + 2) * 7) (bOf a p cnt bg):=by
       refine xEEEEEEEA (ih) fun pc pos hd om mks lm li e g => ?_
       have em:mks.size = 2:=e.trans D.msz
       have w2:d.word 2 = 0:=by rw [D.toAt.word]; rfl
       have hfin:∀ pc pos hd om mks lm li,noOf d pc pos hd om mks lm li = noOf (bOf a p cnt bg) pc pos hd om mks lm li:=fun _ _ _ _ _ _ _ => by rw [<- hD]; rfl
       cases hs:spanLen isQ T (T.size - (p + 1 + 1)) (p + 1 + 1) with
       | zero =>
        rw [hs] at g gR
        have ge:=g_back_w_end (a:=d) (c:=0) (b0:=b0) (pc:=pc) (pos:=pos) (handed:=hd) (om:=om) (marks:=mks) (lm:=lm) (li:=li) D.out D.msz D.m0 D.lm (by rw [w2]; decide)
        rw [hfin] at ge
        refine ⟨_,_,_,_,_,_,_,?_,(((gLA.trans gR).trans g).trans ge).le (by (exact Nat.lt_succ_self _))⟩
        rw [h.body.msz]; exact (back_marks em b0).1
       | succ c =>
        rw [hs] at g gR
        have gb:=g_back_w (a:=d) (c:=c) (b0:=b0) (pc:=pc) (pos:=pos) (handed:=hd) (om:=om) (marks:=mks) (lm:=lm) (li:=li) D.out D.ans D.msz D.m0 D.lm (by rw [hdw]; lia) (by rw [w2]; exact Nat.zero_le _)
        have bm:=back_marks em b0
        obtain ⟨pc',pos',hd',om',mks',lm',li',e',g'⟩:=fails_tails_w (a:=d) (k:=6) D.out D.ans D.msz D.m0 D.lm (by rw [hdw]; lia) w2 c (fun c' m' hd' hc' x y => by
          refine loop_plain (U c' m' hd' x y) (by lia) (fun q => by have:=Option.some.inj q; lia) ?_ ?_
          ·show d.weight + 1 + (d.keep true).marks.size + 2 <= _
           rw [keep_marks D.msz D.m0 D.lm,hdw]
           show a.weight + 2 + 1 + 1 + 2 <= _
           lia
          ·exact spanLen_lt (P:=isQ) (text:=T) (n:=T.size - (p + 1 + 1)) (p:=p + 1 + 1) (c:=c') (by lia)) _ hd bm.1 bm.2
        rw [hfin] at g'
        refine ⟨_,_,_,_,_,_,_,?_,((((gLA.trans gR).trans g).trans gb).trans g').le ?_⟩
        ·rw [h.body.msz]; exact e'
        ·(exact Nat.lt_succ_self _)
      exact (body_no h hc hb (by lia) hB (.inr h34)).le (ar5 eS)
    ·rw [if_neg hx]
     simp only
     by_cases h92:T.getD p 0 = 92
     ·exact (body_no h hc hb (by lia) (body_any_no h hps h92 (by
       by_cases q:p + 1 < T.size
       ·exact .inr (Classical.byContradiction fun z => hx ⟨h92,q,z⟩)
       ·exact .inl (Nat.le_of_not_lt q))) (.inr h34)).le (by (exact Nat.le_add_left _ _))
     ·exact (body_no h hc hb (by lia) (body_lit_no h (.inr h92)) (.inr h34)).le (by (exact Nat.le_add_left _ _))
  ·rw [if_neg hps]
   simp only
   exact (body_no h hc hb (by lia) (body_lit_no h (.inl (by (exact Nat.le_of_not_lt (by assumption))))) (.inl (by (exact Nat.le_of_not_lt (by assumption))))).le (by (exact Nat.le_add_left _ _))
end
section
variable {T:Array Nat} {a:M} {p:Nat} {b0:Option Nat}
noncomputable def rOf (a:M) (p:Nat):M:=att { a with loops:=lpL (-1) none,inner:=some 0 } { wait:=.closeLoop,pc:=46,pos:=p,outermost:=a.outermost,loop:=0 } 66 p a.outermost
theorem Ok.eq {C:Array Nat} {pc pos:Nat} {mks:Array (Option Nat)} {lm li:Int} {w:Nat} (h:Ok C T a pc pos mks lm li w):a = ⟨C,T,T.size,a.start,a.lastStart,a.wholeText,a.mustAdvance,pc,pos,a.handed,a.outermost,mks,lm,li,a.loops,none,a.frames,a.weight,none,a.seen,none⟩:=by
 obtain ⟨⟨h1,h2,h3,h4,h5,h6,h7⟩,h8,h9,h10,h11,h12,h13,h14⟩:=h
 cases a
 simp_all
theorem g_repeat {mks:Array (Option Nat)} {w:Nat} (h:Ok cQuo T a 46 p mks 0 (-1) w) (hl:a.loops = #[]) (hw:w <= 1000):G 1 a (rOf a p):=by
 have key:∀ (st ls hd:Nat) (wt ma om:Bool) (fr:List Sre.Frame) (w:Nat) (sn0:Seen),w + 1 + 0 <= 16777216 ->
   G 1 ⟨cQuo,T,T.size,st,ls,wt,ma,46,p,hd,om,mks,0,-1,#[],none,fr,w,none,sn0,none⟩ (rOf ⟨cQuo,T,T.size,st,ls,wt,ma,46,p,hd,om,mks,0,-1,#[],none,fr,w,none,sn0,none⟩ p):=by
  intro st ls hd wt ma om fr w sn0 hw
  refine G.one fun sn => ⟨sn.add 23,?_⟩
  show M.attempt ⟨cQuo,T,T.size,st,ls,wt,ma,46,p,hd,om,mks,0,-1,lpL (-1) none,some 0,fr,w,none,sn.add 23,none⟩ { wait:=.closeLoop,pc:=46,pos:=p,outermost:=om,loop:=0 } 66 p om = _
  rw [attempt_eq (by exact hw)]
  rfl
 have q:=key a.start a.lastStart a.handed a.wholeText a.mustAdvance a.outermost a.frames a.weight a.seen (by have:=h.weight; lia)
 rw [<- hl,<- h.eq] at q
 exact q
theorem rOf_lp {mks:Array (Option Nat)} {w:Nat} (h:Ok cQuo T a 46 p mks 0 (-1) w) (hm:mks.size = 2) (hm0:mks.getD 0 none = b0) (hwt:a.wholeText = false) (hma:a.mustAdvance = false):Lp T (rOf a p) 66 p b0 (-1) none:=
 ⟨⟨h.code,h.text,h.lim,h.out,h.ans,rfl,rfl⟩,rfl,rfl,by show (_ :: a.frames).all passing = true; rw [List.all_cons,h.pass]; rfl,by show a.marks.size = 2; rw [h.marks]; exact hm,by show a.marks.getD 0 none = _; rw [h.marks]; exact hm0,h.lm,h.li,hwt,hma⟩
theorem g_close_no {mks:Array (Option Nat)} {w:Nat} (h:Ok cQuo T a 46 p mks 0 (-1) w) (hl:a.loops = #[]) {pc pos hd:Nat} {om:Bool} {mks':Array (Option Nat)} {lm li:Int} :
  G 1 (noOf (rOf a p) pc pos hd om mks' lm li) (noOf a 46 p hd a.outermost mks' lm li):=by
 refine G.one fun sn => ⟨sn,?_⟩
 rw [step_pop (m:={ noOf (rOf a p) pc pos hd om mks' lm li with seen:=sn }) (f:={ wait:=.closeLoop,pc:=46,pos:=p,outermost:=a.outermost,loop:=0 }) (rest:=a.frames) (b:=false) h.out rfl rfl]
 unfold M.resume
 simp only
 have e2:a.weight + 1 + 0 - (1 + 0) = a.weight:=by (simp +arith)
 dsimp only [popped,noOf,rOf,att,M.say,M.loopAt,Array.size_empty,e2]
 rw [hl,h.inner]
 rfl
theorem loop_whole {mks:Array (Option Nat)} {w:Nat} (hT:T.size <= 10000) (h:Ok cQuo T a 46 p mks 0 (-1) w) (hl:a.loops = #[]) (hw:w <= 900) (hp:p <= T.size) (hm:mks.size = 2) (hm0:mks.getD 0 none = b0) (hwt:a.wholeText = false) (hma:a.mustAdvance = false) :
  match qClose T (T.size + 1) p with
  | some e => Wins (12 * T.size + 20) (T.size + 1000) a (e + 1) #[b0,some e] 1 1
  | none => Fails (12 * T.size + 20) a:=by
 have g1:=g_repeat h hl (by lia)
 have L:=rOf_lp h hm hm0 hwt hma
 have q:=loop_ends hT (N:=T.size + 1000) (T.size + 1) p (rOf a p) (-1) none (Nat.lt_succ_of_le (Nat.sub_le _ _)) hp L (by decide) (fun b e => by cases e)
  (by show a.weight + 1 + 0 + _ + 6 <= _; have:=h.weight; lia) (by show a.frames.length + 1 + _ + 3 <= _; have:=h.flen; lia)
 cases hq:qClose T (T.size + 1) p with
 | some e =>
  rw [hq] at q
  exact (Wins.of_G g1 rfl q).le (by lia) (Nat.le_refl _)
 | none =>
  rw [hq] at q
  refine xEEEEEEEA (q) fun pc pos hd om mks' lm li e g => ?_
  exact ⟨_,_,_,_,_,_,_,e,((g1.trans g).trans (g_close_no h hl)).le (by lia)⟩
noncomputable def quoE (T:Array Nat):Nat:=valE T + 1 + spanLen isSp T (T.size - (valE T + 1)) (valE T + 1)
noncomputable def quoB (T:Array Nat):Nat:=quoE T + 1
noncomputable def hasQ (T:Array Nat):Bool:=hasEq T && decide (quoE T < T.size) && T.getD (quoE T) 0 == 34
noncomputable def quoC (T:Array Nat):Option Nat:=if hasQ T then qClose T (T.size + 1) (quoB T + spanLen isQ T (T.size - quoB T) (quoB T)) else none
theorem qClose_plain {n q:Nat} (h:isQ (T.getD q 0) = true):qClose T n q = none:=by
 have h1:T.getD q 0 ≠ 92:=fun e => by rw [e] at h; cases h
 have h2:T.getD q 0 ≠ 34:=fun e => by rw [e] at h; cases h
 cases n with
 | zero => rfl
 | succ n =>
  rw [qClose_succ]
  by_cases hq:q < T.size
  ·rw [if_pos hq,if_neg h2,if_neg (fun x => h1 x.1)]
  ·rw [if_neg hq]
theorem quo_in {mks:Array (Option Nat)} {w:Nat} (hT:T.size <= 10000) (h:Ok cQuo T a 31 p mks (-1) (-1) w) (hl:a.loops = #[]) (hw:w <= 800) (hp:p <= T.size) (hm:mks.size = 2) (hwt:a.wholeText = false) (hma:a.mustAdvance = false) :
  match qClose T (T.size + 1) (p + spanLen isQ T (T.size - p) p) with
  | some e => Wins (12 * T.size + 30) (T.size + 1000) a (e + 1) #[some p,some e] 1 1
  | none => Fails ((T.size + 1) * (12 * T.size + 30)) a:=by
 have h2:=h.mark 0 (by decide)
 have m2:(mks.setIfInBounds 0 (some p)).size = 2:=by rw [Array.size_setIfInBounds]; exact hm
 have m20:∀ m':Array (Option Nat),m' = mks.setIfInBounds 0 (some p) -> m'.getD 0 none = some p:=fun m' e => by
  subst e
  obtain ⟨x,y,rfl⟩:=pair2 hm
  rfl
 cases hq:qClose T (T.size + 1) (p + spanLen isQ T (T.size - p) p) with
 | some e =>
  simp only
  have w1:Wins (1 + (1 + (12 * T.size + 20))) (T.size + 1000) a (e + 1) #[some p,some e] 1 1:=by
   refine h.wn_mark (by decide) rfl ?_
   refine h2.wn_rep (P:=isQ) (by decide) rfl acc_q1 rfl hp (by lia) (by lia) (Nat.zero_le _) fun b hb _ e1 e2 _ e3 => ?_
   have q:=loop_whole (b0:=some p) hT hb (e3.trans hl) (by lia) (spanLen_fit hp) m2 (m20 _ rfl) (e1.trans hwt) (e2.trans hma)
   rw [hq] at q
   exact q
  exact w1.le (by (simp +arith)) (Nat.le_refl _)
 | none =>
  simp only
  have hk:∀ c,c <= spanLen isQ T (T.size - p) p -> qClose T (T.size + 1) (p + c) = none:=fun c hc => by
   by_cases e:c = spanLen isQ T (T.size - p) p
   ·rw [e]; exact hq
   ·exact qClose_plain (spanLen_lt (n:=T.size - p) (by lia))
  have sl:=spanLen_le isQ T (T.size - p) p
  have f1:Fails (1 + (spanLen isQ T (T.size - p) p + 1) * (12 * T.size + 20 + 1)) (a.mark (cQuo.getD (31 + 1) 0)):=by
   have A:=h2.toAt
   refine fl_rep (P:=isQ) A (by decide) rfl acc_q1 rfl hp (by lia) h2.inner (by show (a.mark 0).weight + 1 <= _; have:=h2.weight; lia) (.inl rfl) fun c marks handed _ hc hms => ?_
   have O:=h2.tail' c ((a.mark 0).keep false) rfl marks handed
   have hmk:marks.size = 2:=hms.trans ((congrArg Array.size h2.marks).trans m2)
   have q:=loop_whole (b0:=marks.getD 0 none) hT O hl (by lia) (by lia) hmk rfl hwt hma
   rw [hk c hc] at q
   exact q
  refine (fl_mark h.toAt (by decide) rfl f1).le ?_
  have:(spanLen isQ T (T.size - p) p + 1) * (12 * T.size + 20 + 1) <= (T.size + 1) * (12 * T.size + 20 + 1):=Nat.mul_le_mul_right _ (Nat.succ_le_succ (Nat.le_trans sl (Nat.sub_le _ _)))
  have:(T.size + 1) * (12 * T.size + 30) = (T.size + 1) * (12 * T.size + 20 + 1) + (T.size + 1) * 9:=by rw [<- Nat.mul_add]
  lia
theorem quo_lit34 {mks:Array (Option Nat)} {w:Nat} (h:Ok cQuo T a 29 p mks (-1) (-1) w) (hno:p ≥ T.size \/ T.getD p 0 ≠ 34):Fails 1 a:=by
 refine fl_one (op:=.LITERAL) h.toAt (by decide) rfl rfl ?_
 rcases hno with x | x
 ·exact .inl x
 ·right
  have:=acc_lit (code:=cQuo) (i:=29) (w:=34) rfl rfl (T.getD p 0)
  rw [beq_eq_false_iff_ne.mpr x] at this
  exact this
theorem g_34 {mks:Array (Option Nat)} {w:Nat} (h:Ok cQuo T a 29 p mks (-1) (-1) w) (hp:p < T.size) (h34:T.getD p 0 = 34):G 1 a { a with pc:=31,pos:=p + 1 }:=by
 have acc:=acc_lit (code:=cQuo) (i:=29) (w:=34) rfl rfl (T.getD p 0)
 exact g_one' (op:=.LITERAL) h.toAt (by decide) rfl rfl hp (by rw [h34] at acc ⊢; exact acc)
theorem g_61 {mks:Array (Option Nat)} {w:Nat} (h:Ok cQuo T a 17 p mks (-1) (-1) w) (hp:p < T.size) (h61:T.getD p 0 = 61):G 1 a { a with pc:=19,pos:=p + 1 }:=by
 have acc:=acc_lit (code:=cQuo) (i:=17) (w:=61) rfl rfl (T.getD p 0)
 exact g_one' (op:=.LITERAL) h.toAt (by decide) rfl rfl hp (by rw [h61] at acc ⊢; exact acc)
theorem quo_mid {mks:Array (Option Nat)} {w:Nat} (hT:T.size <= 10000) (h:Ok cQuo T a 19 (valE T + 1) mks (-1) (-1) w) (hl:a.loops = #[]) (hw:w <= 700) (he:hasEq T = true) (hm:mks.size = 2) (hwt:a.wholeText = false) (hma:a.mustAdvance = false) :
  match quoC T with
  | some e => Wins (12 * T.size + 40) (T.size + 1000) a (e + 1) #[some (quoB T),some e] 1 1
  | none => Fails ((T.size + 1) * ((T.size + 1) * (12 * T.size + 30) + 4)) a:=by
 have he':=he
 unfold hasEq at he'
 rw [Bool.and_eq_true,decide_eq_true_eq] at he'
 have hle:valE T + 1 <= T.size:=he'.1
 have sl:=spanLen_le isSp T (T.size - (valE T + 1)) (valE T + 1)
 have eE:valE T + 1 + spanLen isSp T (T.size - (valE T + 1)) (valE T + 1) = quoE T:=rfl
 cases hq:quoC T with
 | some e =>
  simp only
  unfold quoC at hq
  split at hq
  ·rename_i hQ
   unfold hasQ at hQ
   rw [Bool.and_eq_true,Bool.and_eq_true,decide_eq_true_eq,beq_iff_eq] at hQ
   have w1:Wins (1 + (1 + (12 * T.size + 30))) (T.size + 1000) a (e + 1) #[some (quoB T),some e] 1 1:=by
    refine h.wn_rep (P:=isSp) (by decide) rfl acc_sp_quo2 rfl hle (by lia) (by lia) (Nat.zero_le _) fun b hb _ e1 e2 _ e3 => ?_
    rw [eE] at hb
    refine wn_then (pc:=31) (pos:=quoE T + 1) (g_34 hb hQ.1.2 hQ.2) ?_
    have q:=quo_in hT (hb.to 31 (quoE T + 1)) (e3.trans hl) (by lia) (by (omega)) hm (e1.trans hwt) (e2.trans hma)
    have hq':qClose T (T.size + 1) (quoE T + 1 + spanLen isQ T (T.size - (quoE T + 1)) (quoE T + 1)) = some e:=hq
    rw [hq'] at q
    exact q
   exact w1.le (by (simp +arith)) (Nat.le_refl _)
  ·cases hq
 | none =>
  simp only
  have f:Fails (1 + (spanLen isSp T (T.size - (valE T + 1)) (valE T + 1) + 1) * ((1 + (T.size + 1) * (12 * T.size + 30)) + 1)) a:=by
   refine h.fl_rep (P:=isSp) (by decide) rfl acc_sp_quo2 rfl hle (by lia) (by lia) (.inl rfl) fun b c m' _ hc hb e3 e1 e2 e4 => ?_
   by_cases hcs:c = spanLen isSp T (T.size - (valE T + 1)) (valE T + 1)
   ·subst hcs
    rw [eE] at hb
    by_cases hx:quoE T < T.size /\ T.getD (quoE T) 0 = 34
    ·refine fl_then (pc:=31) (pos:=quoE T + 1) (g_34 hb hx.1 hx.2) ?_
     have hmk:m'.size = 2:=e4.trans hm
     have q:=quo_in hT (hb.to 31 (quoE T + 1)) (e3.trans hl) (by lia) (by (omega)) hmk (e1.trans hwt) (e2.trans hma)
     have hQ:hasQ T = true:=by
      unfold hasQ
      rw [Bool.and_eq_true,Bool.and_eq_true,decide_eq_true_eq,beq_iff_eq]
      exact ⟨⟨he,hx.1⟩,hx.2⟩
     unfold quoC at hq
     rw [if_pos hQ] at hq
     have hq':qClose T (T.size + 1) (quoE T + 1 + spanLen isQ T (T.size - (quoE T + 1)) (quoE T + 1)) = none:=hq
     rw [hq'] at q
     exact q
    ·refine (quo_lit34 hb ?_).le (by (exact Nat.le_add_right _ _))
     by_cases z:quoE T < T.size
     ·exact .inr fun q => hx ⟨z,q⟩
     ·exact .inl (Nat.le_of_not_lt z)
   ·refine (quo_lit34 hb (.inr fun e => ?_)).le (by (exact Nat.le_add_right _ _))
    have:=spanLen_lt (P:=isSp) (text:=T) (n:=T.size - (valE T + 1)) (p:=valE T + 1) (c:=c) (by lia)
    rw [e,sp34] at this
    cases this
  refine f.le ?_
  have:(spanLen isSp T (T.size - (valE T + 1)) (valE T + 1) + 1) * ((1 + (T.size + 1) * (12 * T.size + 30)) + 1) <= (T.size + 1) * ((1 + (T.size + 1) * (12 * T.size + 30)) + 1):=Nat.mul_le_mul_right _ (Nat.succ_le_succ (Nat.le_trans sl (Nat.sub_le _ _)))
  have:(T.size + 1) * ((T.size + 1) * (12 * T.size + 30) + 4) = (T.size + 1) * ((1 + (T.size + 1) * (12 * T.size + 30)) + 1) + (T.size + 1) * 2:=by rw [<- Nat.mul_add]; congr 1; (simp +arith)
  lia
end
section
variable {T:Array Nat} {a:M} {p:Nat}
theorem qClose_in:∀ {n p e:Nat},qClose T n p = some e -> p <= e /\ e < T.size
 | 0,_,_,h => by cases h
 | n + 1,p,e,h => by
  rw [qClose_succ] at h
  by_cases h1:p < T.size
  ·rw [if_pos h1] at h
   by_cases h2:T.getD p 0 = 34
   ·rw [if_pos h2] at h; cases h; exact ⟨Nat.le_refl _,h1⟩
   ·rw [if_neg h2] at h
    by_cases h3:T.getD p 0 = 92 /\ p + 1 < T.size /\ T.getD (p + 1) 0 ≠ 10
    ·rw [if_pos h3] at h
     have:=qClose_in h
     (first | lia | omega)
    ·rw [if_neg h3] at h; cases h
  ·rw [if_neg h1] at h; cases h
theorem quoC_in {e:Nat} (h:quoC T = some e):quoB T <= e /\ e < T.size:=by
 unfold quoC at h
 split at h
 ·have:=qClose_in h; (first | lia | omega)
 ·cases h
theorem quoC_eq {e:Nat} (h:quoC T = some e):hasEq T = true:=by
 unfold quoC at h
 split at h
 ·rename_i hQ
  unfold hasQ at hQ
  rw [Bool.and_eq_true,Bool.and_eq_true] at hQ
  exact hQ.1.1
 ·cases h
theorem quo_top {mks:Array (Option Nat)} {w:Nat} (hT:T.size <= 10000) (h:Ok cQuo T a 7 0 mks (-1) (-1) w) (hl:a.loops = #[]) (hw:w <= 600) (hm:mks.size = 2) (hwt:a.wholeText = false) (hma:a.mustAdvance = false) :
  match quoC T with
  | some e => Wins (12 * T.size + 50) (T.size + 1000) a (e + 1) #[some (quoB T),some e] 1 1
  | none => Fails 150000000000000000 a:=by
 have hle:valE T <= T.size:=spanLen_le ..
 have eE:0 + spanLen isSp T (T.size - 0) 0 = valE T:=by rw [Nat.zero_add,Nat.sub_zero]; rfl
 cases hq:quoC T with
 | some e =>
  simp only
  have he:=quoC_eq hq
  have he':=he
  unfold hasEq at he'
  rw [Bool.and_eq_true,decide_eq_true_eq,beq_iff_eq] at he'
  have w1:Wins (1 + (1 + (12 * T.size + 40))) (T.size + 1000) a (e + 1) #[some (quoB T),some e] 1 1:=by
   refine h.wn_rep (P:=isSp) (by decide) rfl acc_sp_quo1 rfl (Nat.zero_le _) (by (first | lia | omega)) (by (first | lia | omega)) (Nat.zero_le _) fun b hb _ e1 e2 _ e3 => ?_
   rw [eE] at hb
   refine wn_then (pc:=19) (pos:=valE T + 1) (g_61 hb he'.1 he'.2) ?_
   have q:=quo_mid hT (hb.to 19 (valE T + 1)) (e3.trans hl) (by (first | lia | omega)) he hm (e1.trans hwt) (e2.trans hma)
   rw [hq] at q
   exact q
  exact w1.le (by (first | lia | omega)) (Nat.le_refl _)
 | none =>
  simp only
  have f:Fails (1 + (spanLen isSp T (T.size - 0) 0 + 1) * ((1 + (T.size + 1) * ((T.size + 1) * (12 * T.size + 30) + 4)) + 1)) a:=by
   refine h.fl_rep (P:=isSp) (by decide) rfl acc_sp_quo1 rfl (Nat.zero_le _) (by (first | lia | omega)) (by (first | lia | omega)) (.inl rfl) fun b c m' _ hc hb e3 e1 e2 e4 => ?_
   rw [Nat.sub_zero] at hc
   rw [Nat.zero_add] at hb
   by_cases hx:c = valE T /\ hasEq T = true
   ·obtain ⟨rfl,he⟩:=hx
    have he':=he
    unfold hasEq at he'
    rw [Bool.and_eq_true,decide_eq_true_eq,beq_iff_eq] at he'
    refine fl_then (pc:=19) (pos:=valE T + 1) (g_61 hb he'.1 he'.2) ?_
    have q:=quo_mid hT (hb.to 19 (valE T + 1)) (e3.trans hl) (by (first | lia | omega)) he (e4.trans hm) (e1.trans hwt) (e2.trans hma)
    rw [hq] at q
    exact q
   ·refine (eq_no hb.toAt (by decide) rfl rfl hc fun e => ?_).le (by (first | lia | omega))
    cases z:hasEq T with
    | false => rfl
    | true => exact absurd ⟨e,z⟩ hx
  refine f.le ?_
  rw [Nat.sub_zero]
  have x1:(T.size + 1) * (12 * T.size + 30) <= 10001 * 120030:=Nat.mul_le_mul (by (first | lia | omega)) (by (first | lia | omega))
  have x2:(T.size + 1) * ((T.size + 1) * (12 * T.size + 30) + 4) <= 10001 * (10001 * 120030 + 4):=Nat.mul_le_mul (by (first | lia | omega)) (by (first | lia | omega))
  have x3:(spanLen isSp T T.size 0 + 1) * ((1 + (T.size + 1) * ((T.size + 1) * (12 * T.size + 30) + 4)) + 1) <= 10001 * (10001 * (10001 * 120030 + 4) + 2):=Nat.mul_le_mul (by unfold valE at hle; (first | lia | omega)) (by (first | lia | omega))
  (first | lia | omega)
theorem quo_search (hT:T.size <= 10000):RxRes 200000000000000000 (forSearch cQuo T 1 0 T.size false)
  (match quoC T with | some e => some (0,e + 1,#[some (quoB T),some e],1,1) | none => none):=by
 by_cases h1:T.size < 3
 ·cases hq:quoC T with
  | none => exact (forSearch_short (Or.inr (by rw [Nat.sub_zero]; exact h1))).le (by (first | lia | omega))
  | some e =>
   have:=quoC_in hq
   unfold quoB quoE at this
   (first | lia | omega)
 ·cases hq:quoC T with
  | none =>
   refine (search_bos (k:=1 + 150000000000000000) (n:=0) (r:=none) rfl (by decide) rfl rfl rfl h1 fun ls => ?_).le (by (first | lia | omega))
   have q:=quo_top hT ((Ok.start (C:=cQuo) (T:=T) (ls:=ls) (ma:=false) (first:=true) (marks:=Array.replicate (2 * 1) none) (s:=0) (p:=5) rfl).to 7 0) rfl (by (first | lia | omega)) Array.size_replicate rfl rfl
   rw [hq] at q
   exact fl_then (pc:=7) (pos:=0) (g_bos rfl (by decide) rfl rfl) q
  | some e =>
   refine (search_bos (k:=1 + (12 * T.size + 50)) (n:=T.size + 1000) (r:=some (0,e + 1,#[some (quoB T),some e],1,1)) rfl (by decide) rfl rfl rfl h1 fun ls => ⟨rfl,?_⟩).le (by (first | lia | omega))
   have q:=quo_top hT ((Ok.start (C:=cQuo) (T:=T) (ls:=ls) (ma:=false) (first:=true) (marks:=Array.replicate (2 * 1) none) (s:=0) (p:=5) rfl).to 7 0) rfl (by (first | lia | omega)) Array.size_replicate rfl rfl
   rw [hq] at q
   exact wn_then (pc:=7) (pos:=0) (g_bos rfl (by decide) rfl rfl) q
end
noncomputable def firstAt (p:Nat -> Bool):Nat -> Nat -> Option Nat
 | 0,_ => none
 | n + 1,s => if p s then some s else firstAt p n (s + 1)
theorem firstAt_succ {p:Nat -> Bool} {n s:Nat}:firstAt p (n + 1) s = if p s then some s else firstAt p n (s + 1):=rfl
theorem firstAt_some {p:Nat -> Bool}:∀ {n s t:Nat},firstAt p n s = some t -> s <= t /\ t < s + n /\ p t = true /\ ∀ i,s <= i -> i < t -> p i = false
 | 0,_,_,h => by cases h
 | n + 1,s,t,h => by
  rw [firstAt_succ] at h
  by_cases hp:p s = true
  ·rw [if_pos hp] at h; cases h
   exact ⟨Nat.le_refl _,by (simp +arith),hp,fun i h1 h2 => by lia⟩
  ·rw [if_neg hp] at h
   refine xAAA (firstAt_some h) fun h1 h2 h3 h4 => ?_
   refine ⟨by (exact Nat.le_of_lt (by assumption)),by lia,h3,fun i a b => ?_⟩
   by_cases hi:i = s
   ·subst hi; simpa using hp
   ·exact h4 i (by lia) b
theorem firstAt_none {p:Nat -> Bool}:∀ {n s:Nat},firstAt p n s = none -> ∀ i,s <= i -> i < s + n -> p i = false
 | 0,_,_,i,h1,h2 => by lia
 | n + 1,s,h,i,h1,h2 => by
  rw [firstAt_succ] at h
  by_cases hp:p s = true
  ·rw [if_pos hp] at h; cases h
  ·rw [if_neg hp] at h
   by_cases hi:i = s
   ·subst hi; simpa using hp
   ·exact firstAt_none h i (by lia) (by lia)
section plain
variable {C T:Array Nat} {g:Nat}
theorem search_first {k j:Nat} {p:Nat -> Bool} {r:Nat -> Nat × Nat × Array (Option Nat) × Int × Int} (hset:plainCode C = true) (hls:((header C).1 > 1 && !((header C).2 != 0 && C.getD 2 0 &&& 5 != 0)) = false)
  (hone:0 < (header C).1) (hfew:∀ i,T.size - i < (header C).1 -> p i = false)
  (hno:∀ i ma first marks,marks.size = 2 * g -> p i = false -> Fails k (atStart C T T.size ma i first marks))
  (hyes:∀ i first marks,marks.size = 2 * g -> p i = true -> EndsAs j (atStart C T T.size false i first marks) (some (r i)))
  {s:Nat} (hs:s <= T.size):RxRes ((T.size + 1) * (k + 1) + j + k + 4) (forSearch C T g s T.size false) ((firstAt p (T.size - s) s).map r):=by
 by_cases hsh:T.size - s < (header C).1
 ·have hn:firstAt p (T.size - s) s = none:=by
   cases h:firstAt p (T.size - s) s with
   | none => rfl
   | some t =>
    refine xAAA (firstAt_some h) fun h1 h2 h3 _ => ?_
    rw [hfew t (Nat.lt_of_le_of_lt (Nat.sub_le_sub_left h1 _) hsh)] at h3; cases h3
  rw [hn]
  exact (forSearch_short (.inr hsh)).le (by (exact Nat.le_add_left _ _))
 ·obtain ⟨sn,e⟩:=forSearch_plain (T:=T) (g:=g) (s:=s) (ma:=false) hset hs hsh
  rw [hls] at e
  dsimp only [Bool.false_eq_true,if_false] at e
  cases h:firstAt p (T.size - s) s with
  | some t =>
   refine xAAA (firstAt_some h) fun h1 h2 h3 h4 => ?_
   have q:=search_ends (text:=T) (ls:=T.size) (k:=k) (j:=j) (r:=some (r t)) (plain_hset hset) (2 * g) t (t - s) s false true (Array.replicate (2 * g) none) rfl h1 (Nat.le_of_lt (sub_tot hs h2)) Array.size_replicate
    (fun s' ma first marks a b c => hno s' ma first marks c (h4 s' a b))
    (fun ma' first' marks' z x y => by
     have:ma' = false:=by
      by_cases q:s = t
      ·exact (x q).1
      ·exact (y q).1
     subst this
     exact hyes t first' marks' z h3)
   have m1:(t - s) * (k + 1) <= (T.size + 1) * (k + 1):=Nat.mul_le_mul_right _ (sub_le_of (Nat.le_succ_of_le (Nat.le_of_lt (sub_tot hs h2))))
   exact (RxRes.of q e).le (by lia)
  | none =>
   have h4:=firstAt_none h
   have hend:p T.size = false:=by
    exact hfew _ (by rw [Nat.sub_self]; exact hone)
   have q:=search_ends (text:=T) (ls:=T.size) (k:=k) (j:=k + 2) (r:=none) (plain_hset hset) (2 * g) T.size (T.size - s) s false true (Array.replicate (2 * g) none) rfl hs (Nat.le_refl _) Array.size_replicate
    (fun s' ma first marks a b c => hno s' ma first marks c (h4 s' a (by rw [Nat.add_sub_cancel' hs]; exact b)))
    (fun ma' first' marks' z x y => g_over (hno _ _ _ _ z hend) (Nat.lt_irrefl _))
   have m1:(T.size - s) * (k + 1) <= (T.size + 1) * (k + 1):=Nat.mul_le_mul_right _ (sub_le_of (Nat.le_succ _))
   exact (RxRes.of q e).le (by lia)
end plain
section esc
variable {T:Array Nat}
noncomputable def escAt (T:Array Nat) (i:Nat):Bool:=decide (i + 1 < T.size) && (T.getD i 0 == 92) && (T.getD (i + 1) 0 != 10)
noncomputable def dotAt (T:Array Nat) (i:Nat):Bool:=decide (i < T.size) && (T.getD i 0 == 46) && (i == 0 || T.getD (i - 1) 0 == 10)
theorem esc_fails {ls:Nat} {ma first:Bool} {marks:Array (Option Nat)} {i:Nat} (h:escAt T i = false):Fails 3 (atStart cEsc T ls ma i first marks):=by
 have o:=(Ok.start (C:=cEsc) (T:=T) (ls:=ls) (ma:=ma) (first:=first) (marks:=marks) (s:=i) (p:=9) rfl)
 have acc:=acc_lit (code:=cEsc) (i:=9) (w:=92) rfl rfl (T.getD i 0)
 by_cases h1:i < T.size /\ T.getD i 0 = 92
 ·refine (fl_then (k:=2) (pc:=11) (pos:=i + 1) (g_one' (op:=.LITERAL) o.toAt (by decide) rfl rfl h1.1 (by rw [h1.2] at acc ⊢; exact acc)) ?_)
  refine fl_mark (k:=1) (o.to 11 (i + 1)).toAt (by decide) rfl ?_
  refine fl_one (op:=.ANY) ((o.to 11 (i + 1)).toAt.mark 0) (by decide) rfl rfl ?_
  by_cases h2:i + 1 < T.size
  ·right
   have acc2:=acc_any (code:=cEsc) (i:=13) rfl (T.getD (i + 1) 0)
   have:(T.getD (i + 1) 0 != 10) = false:=by
    unfold escAt at h
    rw [decide_eq_true h2,h1.2] at h
    exact h
   rw [this] at acc2
   exact acc2
  ·exact .inl (by (exact Nat.le_of_not_lt (by assumption)))
 ·refine (fl_one (op:=.LITERAL) o.toAt (by decide) rfl rfl ?_).le (by (exact Nat.le_add_left _ _))
  by_cases h2:i < T.size
  ·right
   have:(T.getD i 0 == 92) = false:=beq_eq_false_iff_ne.mpr fun e => h1 ⟨h2,e⟩
   rw [this] at acc
   exact acc
  ·exact .inl (by (exact Nat.le_of_not_lt (by assumption)))
theorem esc_wins {ls:Nat} {first:Bool} {marks:Array (Option Nat)} {i:Nat} (hm:marks.size = 2 * 1) (h:escAt T i = true):EndsAs 100 (atStart cEsc T ls false i first marks) (some (i,i + 2,#[some (i + 1),some (i + 2)],1,1)):=by
 unfold escAt at h
 rw [Bool.and_eq_true,Bool.and_eq_true,decide_eq_true_eq,beq_iff_eq] at h
 obtain ⟨⟨h1,h2⟩,h3⟩:=h
 have o:=(Ok.start (C:=cEsc) (T:=T) (ls:=ls) (ma:=false) (first:=first) (marks:=marks) (s:=i) (p:=9) rfl)
 have acc:=acc_lit (code:=cEsc) (i:=9) (w:=92) rfl rfl (T.getD i 0)
 have acc2:=acc_any (code:=cEsc) (i:=13) rfl (T.getD (i + 1) 0)
 rw [h3] at acc2
 have w:Wins (1 + (1 + (1 + (1 + 1)))) 10 (atStart cEsc T ls false i first marks) (i + 2) #[some (i + 1),some (i + 2)] 1 1:=by
  refine wn_then (pc:=11) (pos:=i + 1) (g_one' (op:=.LITERAL) o.toAt (by decide) rfl rfl (by (exact Nat.le_of_lt (by assumption))) (by rw [h2] at acc ⊢; exact acc)) ?_
  have o1:=o.to 11 (i + 1)
  refine o1.wn_mark (by decide) rfl ?_
  have o2:=o1.mark 0 (by decide)
  refine wn_then (pc:=14) (pos:=i + 1 + 1) (g_one' (op:=.ANY) o2.toAt (by decide) rfl rfl h1 acc2) ?_
  have o3:=o2.to 14 (i + 1 + 1)
  refine o3.wn_mark (by decide) rfl ?_
  have o4:=o3.mark 1 (by decide)
  have q:=o4.wn_success (n:=10) (by decide) rfl (.inl rfl) (.inl rfl) (by (exact Nat.le_add_left _ _))
  rw [marks2 hm] at q
  exact q
 exact w.ends.le (by (simp +arith))
theorem esc_search {s:Nat} (hs:s <= T.size):RxRes ((T.size + 1) * 4 + 200) (forSearch cEsc T 1 s T.size false)
  ((firstAt (escAt T) (T.size - s) s).map fun t => (t,t + 2,#[some (t + 1),some (t + 2)],1,1)):=
 (search_first (k:=3) (j:=100) (r:=fun t => (t,t + 2,#[some (t + 1),some (t + 2)],1,1)) rfl rfl (by decide)
  (fun i hi => by unfold escAt; rw [decide_eq_false (by have:T.size - i < 2:=hi; lia)]; rfl) (fun i ma first marks _ h => esc_fails h) (fun i first marks hm h => esc_wins hm h) hs).le (by (simp +arith))
theorem dot_fails {ls:Nat} {ma first:Bool} {marks:Array (Option Nat)} {i:Nat} (h:dotAt T i = false):Fails 2 (atStart cDot T ls ma i first marks):=by
 have o:=(Ok.start (C:=cDot) (T:=T) (ls:=ls) (ma:=ma) (first:=first) (marks:=marks) (s:=i) (p:=5) rfl)
 cases hb:(i == 0 || T.getD (i - 1) 0 == 10) with
 | false =>
  have g:=g_at (b:=false) (o.toAt.ready (by decide)) (by rw [o.toAt.word]; rfl) (by rw [o.toAt.word]; show Except.ok (i == 0 || T.getD (i - 1) 0 == 10) = _; rw [hb])
  exact (Fails.now (pos:=i) g).le (by (exact Nat.le_succ _))
 | true =>
  have g:=g_at (b:=true) (o.toAt.ready (by decide)) (by rw [o.toAt.word]; rfl) (by rw [o.toAt.word]; show Except.ok (i == 0 || T.getD (i - 1) 0 == 10) = _; rw [hb])
  rw [if_pos rfl] at g
  refine fl_then (k:=1) (pc:=7) (pos:=i) g ?_
  refine fl_one (op:=.LITERAL) (o.to 7 i).toAt (by decide) rfl rfl ?_
  by_cases h2:i < T.size
  ·right
   have acc:=acc_lit (code:=cDot) (i:=7) (w:=46) rfl rfl (T.getD i 0)
   have:(T.getD i 0 == 46) = false:=by
    unfold dotAt at h
    rw [decide_eq_true h2,hb] at h
    simpa using h
   rw [this] at acc
   exact acc
  ·exact .inl (by (exact Nat.le_of_not_lt (by assumption)))
theorem dot_wins {ls:Nat} {first:Bool} {marks:Array (Option Nat)} {i:Nat} (hm:marks.size = 2 * 0) (h:dotAt T i = true):EndsAs 100 (atStart cDot T ls false i first marks) (some (i,i + 1,#[],-1,-1)):=by
 unfold dotAt at h
 rw [Bool.and_eq_true,Bool.and_eq_true,decide_eq_true_eq,beq_iff_eq] at h
 obtain ⟨⟨h1,h2⟩,h3⟩:=h
 have o:=(Ok.start (C:=cDot) (T:=T) (ls:=ls) (ma:=false) (first:=first) (marks:=marks) (s:=i) (p:=5) rfl)
 have acc:=acc_lit (code:=cDot) (i:=7) (w:=46) rfl rfl (T.getD i 0)
 have w:Wins (1 + (1 + 1)) 10 (atStart cDot T ls false i first marks) (i + 1) #[] (-1) (-1):=by
  have g:=g_at (b:=true) (o.toAt.ready (by decide)) (by rw [o.toAt.word]; rfl) (by rw [o.toAt.word]; show Except.ok (i == 0 || T.getD (i - 1) 0 == 10) = _; rw [h3])
  rw [if_pos rfl] at g
  refine wn_then (pc:=7) (pos:=i) g ?_
  refine wn_then (pc:=9) (pos:=i + 1) (g_one' (op:=.LITERAL) (o.to 7 i).toAt (by decide) rfl rfl h1 (by rw [h2] at acc ⊢; exact acc)) ?_
  have o3:=(o.to 7 i).to 9 (i + 1)
  have em:marks = #[]:=Array.eq_empty_of_size_eq_zero hm
  have q:=o3.wn_success (n:=10) (by decide) rfl (.inl rfl) (.inl rfl) (by (exact Nat.le_add_left _ _))
  rw [em] at q ⊢
  exact q
 exact w.ends.le (by (simp +arith))
theorem dot_search {s:Nat} (hs:s <= T.size):RxRes ((T.size + 1) * 3 + 200) (forSearch cDot T 0 s T.size false)
  ((firstAt (dotAt T) (T.size - s) s).map fun t => (t,t + 1,#[],-1,-1)):=
 (search_first (k:=2) (j:=100) (r:=fun t => (t,t + 1,#[],-1,-1)) rfl rfl (by decide)
  (fun i hi => by unfold dotAt; rw [decide_eq_false (by have:T.size - i < 1:=hi; lia)]; rfl) (fun i ma first marks _ h => dot_fails h) (fun i first marks hm h => dot_wins hm h) hs).le (by (simp +arith))
end esc
section set
variable {C T:Array Nat} {g:Nat}
theorem admitted_yes {m:M} {n s:Nat} {sn s1:Seen} (h:¬ s ≥ m.lim) (e:inSet m.code (m.text.getD s 0) m.code.size 5 true sn = .ok (true,s1)):M.admitted m (n + 1) s sn = .ok (some s,s1):=(if_neg h).trans (by rw [e])
theorem admitted_no {m:M} {n s:Nat} {sn s1:Seen} (h:¬ s ≥ m.lim) (e:inSet m.code (m.text.getD s 0) m.code.size 5 true sn = .ok (false,s1)):M.admitted m (n + 1) s sn = M.admitted m n (s + 1) s1:=(if_neg h).trans (by rw [e])
theorem admitted_eq {P:Nat -> Bool} (hP:∀ c,InS C C.size 5 c true (P c)) {m:M} (hc:m.code = C) (ht:m.text = T) (hl:m.lim = T.size) :
  ∀ (n s:Nat) (sn:Seen),n = T.size - s -> s <= T.size -> ∃ sn',M.admitted m (n + 1) s sn = .ok (firstAt (fun i => P (T.getD i 0)) n s,sn')
 | 0,s,sn,hn,hs => by
  exact ⟨sn,if_pos (by rw [hl]; exact Nat.le_of_sub_eq_zero hn.symm)⟩
 | n + 1,s,sn,hn,hs => by
  have hlt:s < T.size:=Nat.lt_of_sub_eq_succ hn.symm
  have hg:¬ s ≥ m.lim:=by rw [hl]; exact Nat.not_le_of_lt hlt
  obtain ⟨s1,e⟩:=hP (T.getD s 0) sn
  rw [firstAt_succ]
  cases hp:P (T.getD s 0) with
  | true =>
   rw [hp] at e
   exact ⟨s1,admitted_yes hg (by rw [hc,ht]; exact e)⟩
  | false =>
   rw [hp] at e
   obtain ⟨s2,e2⟩:=admitted_eq hP hc ht hl n (s + 1) s1 (sub_pred hn.symm).symm hlt
   exact ⟨s2,(admitted_no hg (by rw [hc,ht]; exact e)).trans e2⟩
theorem search_set {j:Nat} {P:Nat -> Bool} {r:Nat -> Nat × Nat × Array (Option Nat) × Int × Int} (hset:plainCode C = false) (hls:((header C).1 > 1 && !((header C).2 != 0 && C.getD 2 0 &&& 5 != 0)) = false) (hone:(header C).1 = 1)
  (hP:∀ c,InS C C.size 5 c true (P c))
  (hyes:∀ i first,i < T.size -> P (T.getD i 0) = true -> EndsAs j (atStart C T T.size false i first (Array.replicate (2 * g) none)) (some (r i)))
  {s:Nat} (hs:s <= T.size):RxRes (j + 1) (forSearch C T g s T.size false) ((firstAt (fun i => P (T.getD i 0)) (T.size - s) s).map r):=by
 by_cases hsh:T.size - s < (header C).1
 ·have hn:T.size - s = 0:=Nat.lt_one_iff.mp (by rw [<- hone]; exact hsh)
  rw [hn]
  exact (forSearch_short (.inr hsh)).le (by (exact Nat.le_add_left _ _))
 ·have e:∃ sn,forSearch C T g s T.size false = M.attemptFrom { base C T T.size false s s s true (Array.replicate (2 * g) none) (-1) (-1) with seen:=sn } s true:=by
   refine ⟨if (header C).2 == 0 then {} else ({}:Seen).add 14,?_⟩
   unfold forSearch
   simp only
   rw [if_neg (by simp only [Bool.or_eq_true,decide_eq_true_eq,not_or]; exact ⟨Nat.not_lt_of_le hs,hsh⟩),hls]
   rfl
  obtain ⟨sn,e⟩:=e
  have hfs:∀ sn,M.hasFirstSet { base C T T.size false s s s true (Array.replicate (2 * g) none) (-1) (-1) with seen:=sn } = true:=fun sn => Eq.mp (Bool.not_eq_false' _) hset
  obtain ⟨s2,e2⟩:=admitted_eq (C:=C) (T:=T) hP (m:={ base C T T.size false s s s true (Array.replicate (2 * g) none) (-1) (-1) with seen:=sn }) rfl rfl rfl (T.size - s) s sn rfl hs
  have en:T.size + 1 - s = T.size - s + 1:=Nat.succ_sub hs
  have e3:forSearch C T g s T.size false = match firstAt (fun i => P (T.getD i 0)) (T.size - s) s with
    | some t => { atStart C T T.size false t true (Array.replicate (2 * g) none) with seen:=s2 }
    | none => { (base C T T.size false s s s true (Array.replicate (2 * g) none) (-1) (-1)).say false with seen:=s2 }:=by
   rw [e]
   unfold M.attemptFrom
   rw [hfs]
   dsimp only [Bool.not_true,Bool.false_eq_true,if_false]
   have e4:M.admitted { base C T T.size false s s s true (Array.replicate (2 * g) none) (-1) (-1) with seen:=sn } (T.size + 1 - s) s sn = .ok (firstAt (fun i => P (T.getD i 0)) (T.size - s) s,s2):=by rw [en]; exact e2
   show (match M.admitted { base C T T.size false s s s true (Array.replicate (2 * g) none) (-1) (-1) with seen:=sn } (T.size + 1 - s) s sn with
    | .ok (some s,seen) => _
    | .ok (none,seen) => _
    | .error why => _) = _
   rw [e4]
   cases firstAt (fun i => P (T.getD i 0)) (T.size - s) s with
   | none => rfl
   | some t =>
    simp only
    unfold M.attemptAt
    rw [attempt_eq (by show 0 + 1 + 0 <= 16777216; decide)]
    rfl
  cases h:firstAt (fun i => P (T.getD i 0)) (T.size - s) s with
  | none =>
   rw [h] at e3
   exact (RxRes.of (.none (end_no rfl rfl rfl) rfl) e3).le (by (exact Nat.le_add_left _ _))
  | some t =>
   rw [h] at e3
   refine xAAA (firstAt_some h) fun h1 h2 h3 _ => ?_
   exact (RxRes.of (hyes t true (sub_tot hs h2) h3) e3).le (by (exact Nat.le_succ _))
end set
section jesc
variable {T:Array Nat}
theorem set_jesc (c:Nat):InS cJEsc cJEsc.size 5 c true (isSome34 c):=
 InS.to (.lit (w:=34) rfl rfl (.lit (w:=92) rfl rfl (.fail rfl))) (by unfold isSome34; cases c == 34 <;> cases c == 92 <;> rfl)
theorem jesc_wins {ls:Nat} {first:Bool} {i:Nat} (hi:i < T.size) (h:isSome34 (T.getD i 0) = true) :
  EndsAs 100 (atStart cJEsc T ls false i first (Array.replicate (2 * 1) none)) (some (i,i + 1,#[some i,some (i + 1)],1,1)):=by
 have o:=(Ok.start (C:=cJEsc) (T:=T) (ls:=ls) (ma:=false) (first:=first) (marks:=Array.replicate (2 * 1) none) (s:=i) (p:=10) rfl)
 have acc:=acc_jesc (T.getD i 0)
 rw [h] at acc
 have w:Wins (1 + (1 + (1 + 1))) 10 (atStart cJEsc T ls false i first (Array.replicate (2 * 1) none)) (i + 1) #[some i,some (i + 1)] 1 1:=by
  refine o.wn_mark (by decide) rfl ?_
  have o2:=o.mark 0 (by decide)
  refine wn_then (pc:=19) (pos:=i + 1) (g_one' (op:=.IN) o2.toAt (by decide) rfl rfl hi acc) ?_
  have o3:=o2.to 19 (i + 1)
  refine o3.wn_mark (by decide) rfl ?_
  have o4:=o3.mark 1 (by decide)
  have q:=o4.wn_success (n:=10) (by decide) rfl (.inl rfl) (.inl rfl) (by (exact Nat.le_add_left _ _))
  rw [marks2 Array.size_replicate] at q
  exact q
 exact w.ends.le (by (simp +arith))
theorem jesc_search {s:Nat} (hs:s <= T.size):RxRes 200 (forSearch cJEsc T 1 s T.size false)
  ((firstAt (fun i => isSome34 (T.getD i 0)) (T.size - s) s).map fun t => (t,t + 1,#[some t,some (t + 1)],1,1)):=
 (search_set (j:=100) (P:=isSome34) (r:=fun t => (t,t + 1,#[some t,some (t + 1)],1,1)) rfl rfl rfl set_jesc (fun i first hi h => jesc_wins hi h) hs).le (by (exact Nat.le_add_left _ _))
end jesc
section eol
variable {T:Array Nat}
theorem set_eol (c:Nat):InS cEol cEol.size 5 c true (isEol c):=
 InS.to (.lit (w:=10) rfl rfl (.lit (w:=13) rfl rfl (.fail rfl))) (by unfold isEol; cases c == 10 <;> cases c == 13 <;> rfl)
noncomputable def eolN (T:Array Nat) (i:Nat):Nat:=if T.getD i 0 = 13 /\ i + 1 < T.size /\ T.getD (i + 1) 0 = 10 then 2 else 1
noncomputable def eSt (T:Array Nat) (ls:Nat) (i:Nat) (om:Bool) (pc pos hd:Nat) (fr:List Sre.Frame) (w:Nat):M:=
 ⟨cEol,T,T.size,i,ls,false,false,pc,pos,hd,om,#[],-1,-1,#[],none,fr,w,none,{},none⟩
noncomputable def f0 (i:Nat) (om:Bool):Sre.Frame:={ wait:=.nextStart,pc:=10,pos:=i,outermost:=om }
noncomputable def fB (i:Nat) (om:Bool) (alt:Nat):Sre.Frame:={ wait:=.nextBranch,pc:=alt,pos:=i,outermost:=om,kept:={ lastmark:=-1,lastindex:=-1,whole:=false,marks:=#[] } }
theorem eSt_start {ls i:Nat} {om:Bool}:atStart cEol T ls false i om (Array.replicate (2 * 0) none) = eSt T ls i om 10 i i [f0 i om] 1:=rfl
theorem g_branch {ls i:Nat} {om:Bool}:G 1 (eSt T ls i om 10 i i [f0 i om] 1) (eSt T ls i om 12 i i [fB i om 11,f0 i om] 2):=by
 refine G.one fun sn => ⟨sn.add 7,?_⟩
 show M.alternative { eSt T ls i om 10 i i [f0 i om] 1 with seen:=sn.add 7 } 11 { lastmark:=-1,lastindex:=-1,whole:=false,marks:=#[] } = _
 unfold M.alternative
 rw [if_neg (by show ¬ ((7:Nat) == 0) = true; decide),attempt_eq (by show 1 + 1 + 0 <= 16777216; decide)]
 rfl
theorem eAt {ls i pc pos hd:Nat} {om:Bool} {fr:List Sre.Frame} {w:Nat}:At cEol T (eSt T ls i om pc pos hd fr w) pc pos:=⟨rfl,rfl,rfl,rfl,rfl,rfl,rfl⟩
theorem e_lit {ls i pc pos hd:Nat} {om:Bool} {fr:List Sre.Frame} {w c:Nat} (hs:pc < cEol.size) (h1:ops[cEol.getD pc 0]? = some .LITERAL) (h2:cEol.getD (pc + 1) 0 = c) (hw:itemWidth cEol pc = 2) (hp:pos < T.size) (hc:T.getD pos 0 = c) :
  G 1 (eSt T ls i om pc pos hd fr w) (eSt T ls i om (pc + 2) (pos + 1) hd fr w):=by
 have acc:=acc_lit (code:=cEol) (i:=pc) (w:=c) h1 h2 (T.getD pos 0)
 rw [hc] at acc
 have g:=g_one' (op:=.LITERAL) (eAt (T:=T) (ls:=ls) (i:=i) (pc:=pc) (pos:=pos) (hd:=hd) (om:=om) (fr:=fr) (w:=w)) hs h1 rfl hp (by rw [hc]; simpa using acc)
 rw [hw] at g
 exact g
theorem e_lit_no {ls i pc pos hd:Nat} {om:Bool} {fr:List Sre.Frame} {w c:Nat} (hs:pc < cEol.size) (h1:ops[cEol.getD pc 0]? = some .LITERAL) (h2:cEol.getD (pc + 1) 0 = c) (hc:pos ≥ T.size \/ T.getD pos 0 ≠ c) :
  G 1 (eSt T ls i om pc pos hd fr w) ((eSt T ls i om pc pos hd fr w).say false):=by
 refine g_one_no (op:=.LITERAL) (eAt.ready hs) (by rw [eAt.word]; exact h1) rfl ?_
 rcases hc with x | x
 ·exact .inl x
 ·right
  have acc:=acc_lit (code:=cEol) (i:=pc) (w:=c) h1 h2 (T.getD pos 0)
  rw [beq_eq_false_iff_ne.mpr x] at acc
  exact acc
theorem e_next {ls i pc pos hd alt alt':Nat} {om om':Bool} {fr:List Sre.Frame} {w:Nat} (ha:alt + cEol.getD alt 0 = alt') (h0:(cEol.getD alt' 0 == 0) = false) (hw:w <= 1000) :
  G 1 ((eSt T ls i om' pc pos hd (fB i om alt :: fr) (w + 1)).say false) (eSt T ls i om (alt' + 1) i i (fB i om alt' :: fr) (w + 1)):=by
 refine G.one fun sn => ⟨sn,?_⟩
 rw [step_pop (m:={ (eSt T ls i om' pc pos hd (fB i om alt :: fr) (w + 1)).say false with seen:=sn }) (f:=fB i om alt) (rest:=fr) (b:=false) rfl rfl rfl]
 show M.alternative ⟨cEol,T,T.size,i,ls,false,false,alt,i,hd,om,#[],-1,-1,#[],none,fr,w + 1 - (1 + 0),none,sn,none⟩ (alt + cEol.getD alt 0) { lastmark:=-1,lastindex:=-1,whole:=false,marks:=#[] } = _
 rw [ha]
 have ew:w + 1 - (1 + 0) = w:=by (simp +arith)
 rw [ew]
 unfold M.alternative
 rw [if_neg (by show ¬ ((cEol.getD alt' 0 == 0) = true); rw [h0]; decide),attempt_eq (by show w + 1 + 0 <= 16777216; lia)]
 rfl
theorem e_jump {ls i pc pos hd:Nat} {om:Bool} {fr:List Sre.Frame} {w t:Nat} (hs:pc < cEol.size) (h1:ops[cEol.getD pc 0]? = some .JUMP) (h2:pc + 1 + cEol.getD (pc + 1) 0 = t) :
  G 1 (eSt T ls i om pc pos hd fr w) (eSt T ls i om t pos hd fr w):=by
 refine G.one fun sn => ⟨sn.add (cEol.getD pc 0),?_⟩
 rw [step_ready (eAt.ready hs)]
 have e:M.word { eSt T ls i om pc pos hd fr w with seen:=sn } 0 = cEol.getD pc 0:=rfl
 unfold M.exec
 simp only [e,h1]
 subst h2
 rfl
theorem e_win {ls i pos hd:Nat} {om:Bool} {fr:List Sre.Frame} {w:Nat} (hf:fr.all passing = true) (hl:fr.length <= 10):Wins 1 10 (eSt T ls i om 35 pos hd fr w) pos #[] (-1) (-1):=
 wn_success (n:=10) eAt (by decide) rfl (.inl rfl) (.inl rfl) hf hl
noncomputable def fL (_i:Nat) (om:Bool) (pos:Nat):Sre.Frame:={ wait:=.lookNot,pc:=26,pos:=pos,outermost:=om,kept:={ lastmark:=-1,lastindex:=-1,whole:=false,marks:=#[] } }
theorem e_look {ls i pos hd:Nat} {om:Bool} {fr:List Sre.Frame} {w:Nat} (hw:w <= 1000):G 1 (eSt T ls i om 26 pos hd fr w) (eSt T ls i false 29 pos pos (fL i om pos :: fr) (w + 1)):=by
 refine G.one fun sn => ⟨sn.add 5,?_⟩
 show (if pos < 0 then (if true = true then { eSt T ls i om 26 pos hd fr w with seen:=sn.add 5,pc:=32 } else M.say { eSt T ls i om 26 pos hd fr w with seen:=sn.add 5 } false) else M.attempt { eSt T ls i om 26 pos hd fr w with seen:=sn.add 5 } (fL i om pos) 29 (pos - 0) false) = _
 rw [if_neg (Nat.not_lt_zero _),attempt_eq (by show w + 1 + 0 <= 16777216; lia)]
 rfl
theorem e_look_no {ls i pc pos p' hd:Nat} {om om':Bool} {fr:List Sre.Frame} {w:Nat}:G 1 ((eSt T ls i om' pc p' hd (fL i om pos :: fr) (w + 1)).say false) (eSt T ls i om 32 pos hd fr w):=by
 refine G.one fun sn => ⟨sn,?_⟩
 rw [step_pop (m:={ (eSt T ls i om' pc p' hd (fL i om pos :: fr) (w + 1)).say false with seen:=sn }) (f:=fL i om pos) (rest:=fr) (b:=false) rfl rfl rfl]
 show (⟨cEol,T,T.size,i,ls,false,false,32,pos,hd,om,#[],-1,-1,#[],none,fr,w + 1 - (1 + 0),none,sn,none⟩:M) = _
 have ew:w + 1 - (1 + 0) = w:=by (simp +arith)
 rw [ew]
 rfl
theorem eol_wins {ls:Nat} {om:Bool} {i:Nat} (hi:i < T.size) (h:isEol (T.getD i 0) = true) :
  EndsAs 100 (atStart cEol T ls false i om (Array.replicate (2 * 0) none)) (some (i,i + eolN T i,#[],-1,-1)):=by
 rw [eSt_start]
 have ps:∀ alt,([fB i om alt,f0 i om]:List Sre.Frame).all passing = true:=fun _ => rfl
 by_cases h13:T.getD i 0 = 13
 ·by_cases h2:i + 1 < T.size /\ T.getD (i + 1) 0 = 10
  ·have en:eolN T i = 2:=if_pos ⟨h13,h2⟩
   rw [en]
   have g1:=e_lit (T:=T) (ls:=ls) (i:=i) (pc:=12) (pos:=i) (hd:=i) (om:=om) (fr:=[fB i om 11,f0 i om]) (w:=2) (c:=13) (by decide) rfl rfl rfl hi h13
   have g2:=e_lit (T:=T) (ls:=ls) (i:=i) (pc:=14) (pos:=i + 1) (hd:=i) (om:=om) (fr:=[fB i om 11,f0 i om]) (w:=2) (c:=10) (by decide) rfl rfl rfl h2.1 h2.2
   have g3:=e_jump (T:=T) (ls:=ls) (i:=i) (pc:=16) (pos:=i + 1 + 1) (hd:=i) (om:=om) (fr:=[fB i om 11,f0 i om]) (w:=2) (t:=35) (by decide) rfl rfl
   have w:Wins 1 10 (eSt T ls i om 35 (i + 1 + 1) i [fB i om 11,f0 i om] 2) (i + 1 + 1) #[] (-1) (-1):=e_win (ps 11) (Nat.le_of_ble_eq_true rfl)
   exact (Wins.of_G (((g_branch.trans g1).trans g2).trans g3) rfl w).ends.le (by (simp +arith))
  ·have en:eolN T i = 1:=if_neg fun x => h2 x.2
   rw [en]
   have no2:i + 1 ≥ T.size \/ T.getD (i + 1) 0 ≠ 10:=by
    by_cases z:i + 1 < T.size
    ·exact .inr fun q => h2 ⟨z,q⟩
    ·exact .inl (Nat.le_of_not_lt z)
   have g1:=e_lit (T:=T) (ls:=ls) (i:=i) (pc:=12) (pos:=i) (hd:=i) (om:=om) (fr:=[fB i om 11,f0 i om]) (w:=2) (c:=13) (by decide) rfl rfl rfl hi h13
   have g2:=e_lit_no (T:=T) (ls:=ls) (i:=i) (pc:=14) (pos:=i + 1) (hd:=i) (om:=om) (fr:=[fB i om 11,f0 i om]) (w:=2) (c:=10) (by decide) rfl rfl no2
   have g3:=e_next (T:=T) (ls:=ls) (i:=i) (pc:=14) (pos:=i + 1) (hd:=i) (om:=om) (om':=om) (fr:=[f0 i om]) (w:=1) (alt:=11) (alt':=18) rfl rfl (by decide)
   have g4:=e_lit_no (T:=T) (ls:=ls) (i:=i) (pc:=19) (pos:=i) (hd:=i) (om:=om) (fr:=[fB i om 18,f0 i om]) (w:=2) (c:=10) (by decide) rfl rfl (.inr (by rw [h13]; decide))
   have g5:=e_next (T:=T) (ls:=ls) (i:=i) (pc:=19) (pos:=i) (hd:=i) (om:=om) (om':=om) (fr:=[f0 i om]) (w:=1) (alt:=18) (alt':=23) rfl rfl (by decide)
   have g6:=e_lit (T:=T) (ls:=ls) (i:=i) (pc:=24) (pos:=i) (hd:=i) (om:=om) (fr:=[fB i om 23,f0 i om]) (w:=2) (c:=13) (by decide) rfl rfl rfl hi h13
   have g7:=e_look (T:=T) (ls:=ls) (i:=i) (pos:=i + 1) (hd:=i) (om:=om) (fr:=[fB i om 23,f0 i om]) (w:=2) (by decide)
   have g8:=e_lit_no (T:=T) (ls:=ls) (i:=i) (pc:=29) (pos:=i + 1) (hd:=i + 1) (om:=false) (fr:=[fL i om (i + 1),fB i om 23,f0 i om]) (w:=3) (c:=10) (by decide) rfl rfl no2
   have g9:=e_look_no (T:=T) (ls:=ls) (i:=i) (pc:=29) (pos:=i + 1) (p':=i + 1) (hd:=i + 1) (om:=om) (om':=false) (fr:=[fB i om 23,f0 i om]) (w:=2)
   have g10:=e_jump (T:=T) (ls:=ls) (i:=i) (pc:=32) (pos:=i + 1) (hd:=i + 1) (om:=om) (fr:=[fB i om 23,f0 i om]) (w:=2) (t:=35) (by decide) rfl rfl
   have w:Wins 1 10 (eSt T ls i om 35 (i + 1) (i + 1) [fB i om 23,f0 i om] 2) (i + 1) #[] (-1) (-1):=e_win (ps 23) (Nat.le_of_ble_eq_true rfl)
   exact (Wins.of_G ((((((((((g_branch.trans g1).trans g2).trans g3).trans g4).trans g5).trans g6).trans g7).trans g8).trans g9).trans g10) rfl w).ends.le (by (simp +arith))
 ·have h10:T.getD i 0 = 10:=by
   unfold isEol at h
   rw [Bool.or_eq_true,beq_iff_eq,beq_iff_eq] at h
   exact h.resolve_right h13
  have en:eolN T i = 1:=if_neg fun x => h13 x.1
  rw [en]
  have g2:=e_lit_no (T:=T) (ls:=ls) (i:=i) (pc:=12) (pos:=i) (hd:=i) (om:=om) (fr:=[fB i om 11,f0 i om]) (w:=2) (c:=13) (by decide) rfl rfl (.inr h13)
  have g3:=e_next (T:=T) (ls:=ls) (i:=i) (pc:=12) (pos:=i) (hd:=i) (om:=om) (om':=om) (fr:=[f0 i om]) (w:=1) (alt:=11) (alt':=18) rfl rfl (by decide)
  have g4:=e_lit (T:=T) (ls:=ls) (i:=i) (pc:=19) (pos:=i) (hd:=i) (om:=om) (fr:=[fB i om 18,f0 i om]) (w:=2) (c:=10) (by decide) rfl rfl rfl hi h10
  have g5:=e_jump (T:=T) (ls:=ls) (i:=i) (pc:=21) (pos:=i + 1) (hd:=i) (om:=om) (fr:=[fB i om 18,f0 i om]) (w:=2) (t:=35) (by decide) rfl rfl
  have w:Wins 1 10 (eSt T ls i om 35 (i + 1) i [fB i om 18,f0 i om] 2) (i + 1) #[] (-1) (-1):=e_win (ps 18) (Nat.le_of_ble_eq_true rfl)
  exact (Wins.of_G ((((g_branch.trans g2).trans g3).trans g4).trans g5) rfl w).ends.le (by (simp +arith))
theorem eol_search {s:Nat} (hs:s <= T.size):RxRes 200 (forSearch cEol T 0 s T.size false)
  ((firstAt (fun i => isEol (T.getD i 0)) (T.size - s) s).map fun t => (t,t + eolN T t,#[],-1,-1)):=
 (search_set (j:=100) (P:=isEol) (r:=fun t => (t,t + eolN T t,#[],-1,-1)) rfl rfl rfl set_eol (fun i first hi h => eol_wins hi h) hs).le (by (exact Nat.le_add_left _ _))
end eol
end Mine
end
section
namespace Mine
open PySem PySem.Builtin PySem.Builtin.Re
section run
variable {M:Model} {A:Around} {E:Value -> Shared -> Prop} {s:Shared}
theorem wp_reDrive:∀ (n k:Nat) (m:Sre.M) (Q:Sre.M -> Shared -> Prop),(stepN k m).outcome.isSome = true -> k <= 4 * n -> 0 < n -> Q (stepN k m) s -> wpAny M A (reDrive n m) Q E s
 | 0,_,_,_,_,_,h,_ => absurd h (Nat.lt_irrefl _)
 | n + 1,k,m,Q,ho,hk,_,hQ => by
  unfold reDrive
  simp only [reTurnSteps,runFor_eq]
  by_cases h4:(stepN 4 m).outcome.isSome = true
  ·rw [if_pos h4]
   have e:stepN 4 m = stepN k m:=by
    by_cases hle:k <= 4
    ·have:4 = k + (4 - k):=(Nat.add_sub_cancel' hle).symm
     rw [this,stepN_add,stepN_out ho]
    ·have:k = 4 + (k - 4):=(Nat.add_sub_cancel' (Nat.le_of_not_le hle)).symm
     rw [this,stepN_add,stepN_out h4]
   rw [e]
   exact wpAny_pure hQ
  ·rw [if_neg h4]
   have hgt:4 < k:=by
    apply Classical.byContradiction
    intro hle
    have:4 = k + (4 - k):=(Nat.add_sub_cancel' (Nat.le_of_not_lt hle)).symm
    rw [this,stepN_add,stepN_out ho] at h4
    exact h4 ho
   have e:k = 4 + (k - 4):=(Nat.add_sub_cancel' (Nat.le_of_lt hgt)).symm
   rw [e,stepN_add] at ho hQ
   exact wpAny_bind (wpAny_rule (wp_reDrive n (k - 4) (stepN 4 m) Q ho (by lia) (by lia) hQ))
theorem wp_reRunToEnd {m:Sre.M} {k:Nat} {r:Hit} {Q:Option Sre.M -> Shared -> Prop} (h:RxRes k m r) (hk:k <= 1000000000000000000)
  (hn:r = none -> Q none s) (hs:∀ st hd mks lm li m',r = some (st,hd,mks,lm,li) -> FoundAt m' st hd mks lm li -> Q (some m') s):wpAny M A (reRunToEnd m) Q E s:=by
 refine xEA (h) fun n hnk hr => ?_
 unfold reRunToEnd
 have ho:(stepN n m).outcome.isSome = true:=by
  cases r with
  | none => simp only at hr; rw [hr]; rfl
  | some q => obtain ⟨st,hd,mks,lm,li⟩:=q; simp only at hr; rw [hr.1]; rfl
 refine wpAny_bind (wp_reDrive (2 ^ 64) n m _ ho (by lia) (by decide) ?_)
 refine wpAny_bind (wpAny_forIn_list _ (fun _ _ s' => s' = s) _ (fun x rest b s' hs' => ?_) (fun b s' hs' => ?_) _ _ rfl)
 ·subst hs'
  by_cases hx:(stepN n m).seen.has x = true
  ·simp only [hx,if_true]
   exact wpAny_bind (wpAny_rule (wpAny_pure rfl))
  ·simp only [hx,Bool.false_eq_true,if_false]
   exact wpAny_pure rfl
 ·subst hs'
  cases r with
  | none => simp only at hr; rw [hr]; exact wpAny_pure (hn rfl)
  | some q =>
   obtain ⟨st,hd,mks,lm,li⟩:=q
   simp only at hr
   rw [hr.1]
   exact wpAny_pure (hs st hd mks lm li _ rfl hr.2)
theorem wp_run_none {m:Sre.M} {k:Nat} {Q:Option Sre.M -> Shared -> Prop} (h:RxRes k m none) (hk:k <= 1000000000000000000) (hn:Q none s):wpAny M A (reRunToEnd m) Q E s:=
 wp_reRunToEnd h hk (fun _ => hn) fun _ _ _ _ _ _ e _ => (Option.some_ne_none _ e.symm).elim
theorem foundAt_of {st hd:Nat} {mks:Array (Option Nat)} {lm li:Int} {st' hd':Nat} {mks':Array (Option Nat)} {lm' li':Int} {m:Sre.M} (e:some (st,hd,mks,lm,li) = some (st',hd',mks',lm',li')) (F:FoundAt m st' hd' mks' lm' li'):FoundAt m st hd mks lm li:=by
 cases e; exact F
theorem wp_run_some {m:Sre.M} {k st hd:Nat} {mks:Array (Option Nat)} {lm li:Int} {Q:Option Sre.M -> Shared -> Prop} (h:RxRes k m (some (st,hd,mks,lm,li))) (hk:k <= 1000000000000000000) (hs:∀ m',FoundAt m' st hd mks lm li -> Q (some m') s):wpAny M A (reRunToEnd m) Q E s:=
 wp_reRunToEnd h hk (fun e => (Option.some_ne_none _ e).elim) fun _ _ _ _ _ _ e F => hs _ (foundAt_of e F)
end run
end Mine
end
section
namespace Mine
open PySem PySem.Builtin PySem.Builtin.Re PySem.F
theorem named_search (id f:String) (v:Value):reNamed id f ["string","pos","endpos"] 1 [v] [] = pure [some v,none,none]:=rfl
theorem named_sub (id f:String) (u v:Value):reNamed id f ["repl","string","count"] 2 [u,v] [] = pure [some u,some v,none]:=rfl
structure IsPat (h:Heap) (p:Addr) (code:Array Nat) (g:Nat):Prop where
 ex:∃ (x0 x1 x3 x4:Value) (tp:Addr) (ob:Obj) (n:Nat),h.get? p = some { cls:=.type "re.Pattern",data:=.fields #[x0,x1,rawInt g,x3,x4,.ref tp,rawInt 0] } /\ h.get? tp = some ob /\ ob.data = .seq (code.map fun (w:Nat) => rawInt w) n
section target
variable {M:Model} {A:Around} {E:Value -> Shared -> Prop} {s:Shared} {p:Addr} {code:Array Nat} {g:Nat} {x:Str} {t:Tok}
theorem raw_code (code:Array Nat):((code.map fun (w:Nat) => rawInt w).map reRawOf).map (·.toNat) = code:=by
 apply Array.ext'
 simp only [Array.toList_map,List.map_map]
 exact List.map_id'' (fun _ => rfl) _
noncomputable def tgt (p:Addr) (x:Str) (t:Tok) (code:Array Nat) (g:Nat):ReTarget:={ pattern:=.ref p,string:=.str x t,code,text:=x.cps,kind:=0,groups:=g,pos:=0,lim:=x.cps.size }
theorem wp_items {a:Addr} {ob:Obj} {xs:Array Value} {n:Nat} {Q:Array Int -> Shared -> Prop} (ho:s.heap.get? a = some ob) (hd:ob.data = .seq xs n) (h:Q (xs.map reRawOf) s):wpAny M A (reRawItems (.ref a)) Q E s:=by
 unfold reRawItems
 exact wpAny_bind (wpAny_seqItems ho hd (wpAny_pure h))
theorem wp_whole {Q:ReTarget -> Shared -> Prop} (hp:IsPat s.heap p code g) (h:Q (tgt p x t code g) s):wpAny M A (reWholeTarget (.ref p) (.str x t)) Q E s:=by
 refine xEEEEEEEAA (hp.ex) fun x0 x1 x3 x4 tp ob n e1 e2 e3 => ?_
 unfold reWholeTarget
 refine wpAny_bind (wpAny_fieldsOf e1 rfl ?_)
 refine wpAny_bind (m:=reTextOf (.str x t)) (wpAny_of_eq (a:=(x.cps,0)) rfl ?_)
 show wpAny M A (reRawItems (.ref tp) >>= fun c => pure { tgt p x t code g with code:=c.map (·.toNat) }) Q E s
 refine wpAny_bind (wp_items e2 e3 ?_)
 rw [raw_code]
 exact wpAny_pure h
theorem wp_target {id f:String} {Q:ReTarget -> Shared -> Prop} (hx:x.cps.size < 2 ^ 63 - 1) (hp:IsPat s.heap p code g) (h:Q (tgt p x t code g) s):wpAny M A (reTarget id f ⟨[.ref p,.str x t],[]⟩) Q E s:=by
 refine xEEEEEEEAA (hp.ex) fun x0 x1 x3 x4 tp ob n e1 e2 e3 => ?_
 unfold reTarget
 dsimp only
 rw [named_search]
 refine wpAny_bind (wpAny_pure ?_)
 dsimp only
 refine wpAny_bind (wpAny_pure ?_)
 refine wpAny_bind (wpAny_pure ?_)
 refine wpAny_bind (wpAny_fieldsOf e1 rfl ?_)
 refine wpAny_bind (m:=reTextOf (.str x t)) (wpAny_of_eq (a:=(x.cps,0)) rfl ?_)
 show wpAny M A (reRawItems (.ref tp) >>= fun c => pure { tgt p x t code g with code:=c.map (·.toNat),lim:=min ((2:Int) ^ 63 - 1).toNat x.cps.size,pos:=min (0:Int).toNat x.cps.size }) Q E s
 refine wpAny_bind (wp_items e2 e3 ?_)
 rw [raw_code]
 refine wpAny_pure ?_
 have e:min ((2:Int) ^ 63 - 1).toNat x.cps.size = x.cps.size:=by lia
 have e0:min (0:Int).toNat x.cps.size = 0:=Nat.zero_min _
 rw [e,e0]
 exact h
end target
theorem pa_pat:PlainAttrs "re.Pattern":=
 ⟨⟨"object.__getattribute__",by rw [typeLookup_type,builtinLookup_eq_fast]; kernel_rfl,by decide +kernel⟩,by rw [typeLookup_type,builtinLookup_eq_fast]; kernel_rfl⟩
theorem pa_mat:PlainAttrs "re.Match":=
 ⟨⟨"object.__getattribute__",by rw [typeLookup_type,builtinLookup_eq_fast]; kernel_rfl,by decide +kernel⟩,by rw [typeLookup_type,builtinLookup_eq_fast]; kernel_rfl⟩
theorem slot_search:Slot "re.Pattern" "search" "re.Pattern.search":=
 .of (owner:="re.Pattern") (n:="search") (by rw [typeLookup_type,builtinLookup_eq_fast]; kernel_rfl) (by decide +kernel) (by decide +kernel) (by decide +kernel)
  (by first | exact .inl (by decide +kernel) | exact .inr (by decide +kernel)) (by rw [isSubtype_type]; kernel_rfl)
theorem type_search:typeOf (.builtin "re.Pattern.search") = pure (.type "method_descriptor"):=by show builtinType _ = _; rw [builtinType_eq_fast]; kernel_rfl
theorem entry_search:entryFor table "re.Pattern.search" = some Builtin.«re.Pattern.search»:=entryFor_of_tree (by kernel_rfl)
theorem slot_fullmatch:Slot "re.Pattern" "fullmatch" "re.Pattern.fullmatch":=
 .of (owner:="re.Pattern") (n:="fullmatch") (by rw [typeLookup_type,builtinLookup_eq_fast]; kernel_rfl) (by decide +kernel) (by decide +kernel) (by decide +kernel)
  (by first | exact .inl (by decide +kernel) | exact .inr (by decide +kernel)) (by rw [isSubtype_type]; kernel_rfl)
theorem type_fullmatch:typeOf (.builtin "re.Pattern.fullmatch") = pure (.type "method_descriptor"):=by show builtinType _ = _; rw [builtinType_eq_fast]; kernel_rfl
theorem entry_fullmatch:entryFor table "re.Pattern.fullmatch" = some Builtin.«re.Pattern.fullmatch»:=entryFor_of_tree (by kernel_rfl)
theorem slot_sub:Slot "re.Pattern" "sub" "re.Pattern.sub":=
 .of (owner:="re.Pattern") (n:="sub") (by rw [typeLookup_type,builtinLookup_eq_fast]; kernel_rfl) (by decide +kernel) (by decide +kernel) (by decide +kernel)
  (by first | exact .inl (by decide +kernel) | exact .inr (by decide +kernel)) (by rw [isSubtype_type]; kernel_rfl)
theorem type_sub:typeOf (.builtin "re.Pattern.sub") = pure (.type "method_descriptor"):=by show builtinType _ = _; rw [builtinType_eq_fast]; kernel_rfl
theorem entry_sub:entryFor table "re.Pattern.sub" = some Builtin.«re.Pattern.sub»:=entryFor_of_tree (by kernel_rfl)
theorem slot_subn:Slot "re.Pattern" "subn" "re.Pattern.subn":=
 .of (owner:="re.Pattern") (n:="subn") (by rw [typeLookup_type,builtinLookup_eq_fast]; kernel_rfl) (by decide +kernel) (by decide +kernel) (by decide +kernel)
  (by first | exact .inl (by decide +kernel) | exact .inr (by decide +kernel)) (by rw [isSubtype_type]; kernel_rfl)
theorem type_subn:typeOf (.builtin "re.Pattern.subn") = pure (.type "method_descriptor"):=by show builtinType _ = _; rw [builtinType_eq_fast]; kernel_rfl
theorem entry_subn:entryFor table "re.Pattern.subn" = some Builtin.«re.Pattern.subn»:=entryFor_of_tree (by kernel_rfl)
theorem entry_loop:entryFor table "re.Pattern.sub.loop" = some Builtin.«re.Pattern.sub.loop»:=entryFor_of_tree (by kernel_rfl)
theorem plain_loop:plainId "re.Pattern.sub.loop" = true:=by decide +kernel
theorem slot_group:Slot "re.Match" "group" "re.Match.group":=
 .of (owner:="re.Match") (n:="group") (by rw [typeLookup_type,builtinLookup_eq_fast]; kernel_rfl) (by decide +kernel) (by decide +kernel) (by decide +kernel)
  (by first | exact .inl (by decide +kernel) | exact .inr (by decide +kernel)) (by rw [isSubtype_type]; kernel_rfl)
theorem type_group:typeOf (.builtin "re.Match.group") = pure (.type "method_descriptor"):=by show builtinType _ = _; rw [builtinType_eq_fast]; kernel_rfl
theorem entry_group:entryFor table "re.Match.group" = some Builtin.«re.Match.group»:=entryFor_of_tree (by kernel_rfl)
theorem slot_span:Slot "re.Match" "span" "re.Match.span":=
 .of (owner:="re.Match") (n:="span") (by rw [typeLookup_type,builtinLookup_eq_fast]; kernel_rfl) (by decide +kernel) (by decide +kernel) (by decide +kernel)
  (by first | exact .inl (by decide +kernel) | exact .inr (by decide +kernel)) (by rw [isSubtype_type]; kernel_rfl)
theorem type_span:typeOf (.builtin "re.Match.span") = pure (.type "method_descriptor"):=by show builtinType _ = _; rw [builtinType_eq_fast]; kernel_rfl
theorem entry_span:entryFor table "re.Match.span" = some Builtin.«re.Match.span»:=entryFor_of_tree (by kernel_rfl)
theorem owner_pat:Manifest.owners.lookup (String.ofList ['n','r','e','t','t','a','P','.','e','r'].reverse) = some Manifest.sig_re_Pattern:=by kernel_rfl
theorem owner_mat:Manifest.owners.lookup (String.ofList ['h','c','t','a','M','.','e','r'].reverse) = some Manifest.sig_re_Match:=by kernel_rfl
theorem args_search (a b:Value):argsOk "re.Pattern.search" ⟨[a,b],[]⟩:=by
 unfold argsOk; rw [signature?_of (id:="re.Pattern.search") (n:=['h','c','r','a','e','s']) (o:=['n','r','e','t','t','a','P','.','e','r']) (by kernel_rfl) owner_pat]; kernel_rfl
theorem args_fullmatch (a b:Value):argsOk "re.Pattern.fullmatch" ⟨[a,b],[]⟩:=by
 unfold argsOk; rw [signature?_of (id:="re.Pattern.fullmatch") (n:=['h','c','t','a','m','l','l','u','f']) (o:=['n','r','e','t','t','a','P','.','e','r']) (by kernel_rfl) owner_pat]; kernel_rfl
theorem args_sub (a b c:Value):argsOk "re.Pattern.sub" ⟨[a,b,c],[]⟩:=by
 unfold argsOk; rw [signature?_of (id:="re.Pattern.sub") (n:=['b','u','s']) (o:=['n','r','e','t','t','a','P','.','e','r']) (by kernel_rfl) owner_pat]; kernel_rfl
theorem args_subn (a b c:Value):argsOk "re.Pattern.subn" ⟨[a,b,c],[]⟩:=by
 unfold argsOk; rw [signature?_of (id:="re.Pattern.subn") (n:=['n','b','u','s']) (o:=['n','r','e','t','t','a','P','.','e','r']) (by kernel_rfl) owner_pat]; kernel_rfl
theorem args_group (a b:Value):argsOk "re.Match.group" ⟨[a,b],[]⟩:=by
 unfold argsOk; rw [signature?_of (id:="re.Match.group") (n:=['p','u','o','r','g']) (o:=['h','c','t','a','M','.','e','r']) (by kernel_rfl) owner_mat]; kernel_rfl
theorem args_span (a b:Value):argsOk "re.Match.span" ⟨[a,b],[]⟩:=by
 unfold argsOk; rw [signature?_of (id:="re.Match.span") (n:=['n','a','p','s']) (o:=['h','c','t','a','M','.','e','r']) (by kernel_rfl) owner_mat]; kernel_rfl
noncomputable def spansOf (st hd:Nat) (gr:List (Nat × Nat)):List Value:=rawInt st :: rawInt hd :: gr.flatMap fun q => [rawInt q.1,rawInt q.2]
noncomputable def IsMatch (h:Heap) (a:Addr) (x:Str) (st hd:Nat) (gr:List (Nat × Nat)):Prop:=
 ∃ (t:Tok) (p pos lim li:Value) (tp:Addr),h.get? a = some { cls:=.type "re.Match",data:=.fields #[.str x t,p,pos,lim,li,.ref tp] } /\
  h.get? tp = some { cls:=.type "tuple",data:=.seq (spansOf st hd gr).toArray }
noncomputable def FreshM (lo:Nat) (h:Heap) (a:Addr):Prop:=lo <= a /\ ∀ ob vs tp,h.get? a = some ob -> ob.data = .fields vs -> vs[5]? = some (.ref tp) -> lo <= tp
inductive Grps:Nat -> Array (Option Nat) -> Int -> List (Nat × Nat) -> Prop where
 | zero {lm:Int}:Grps 0 #[] lm []
 | one {b e:Nat}:b <= e -> Grps 1 #[some b,some e] 1 [(b,e)]
section
variable {M:Model} {A:Around} {E:Value -> Shared -> Prop} {s:Shared} {p:Addr} {code:Array Nat} {g:Nat} {x:Str} {t:Tok}
theorem wp_newMatch {m:Sre.M} {st hd:Nat} {mks:Array (Option Nat)} {lm li:Int} {gr:List (Nat × Nat)} {pos lim:Nat} {Q:Value -> Shared -> Prop}
  (F:FoundAt m st hd mks lm li) (hg:Grps g mks lm gr)
  (h:∀ a h',(∀ b o,s.heap.get? b = some o -> h'.get? b = some o) -> FreshM s.heap.objs.size h' a -> s.heap.objs.size <= h'.objs.size -> IsMatch h' a x st hd gr -> Q (.ref a) { s with heap:=h' }) :
  wpAny M A (reNewMatch (.ref p) (.str x t) g pos lim m) Q E s:=by
 have fin:∀ (spans:List Value),spans = gr.flatMap (fun q => [rawInt (q.1:Int),rawInt (q.2:Int)]) -> spans.length <= 2 ->
   wpAny M A (do newFields "re.Match" [.str x t,.ref p,rawInt pos,rawInt lim,rawInt m.lastindex,<- newTuple (rawInt m.start :: rawInt m.handed :: spans)]) Q E s:=by
  intro spans hsp hlen
  refine wpAny_bind (wpAny_newTuple ?_ (by show (_ :: _ :: spans).length <= sizeLine; simp only [List.length_cons]; rw [show sizeLine = 16777216 from rfl]; lia))
  refine wpAny_newObj_type ?_ (by size_fits)
  refine h _ _ (fun b o e => Heap.get?_push_of_some _ (Heap.get?_push_of_some _ e)) ⟨by simp only [Heap.size_push]; (exact Nat.le_succ _),fun ob vs tp e1 e2 e3 => ?_⟩ (by simp only [Heap.size_push]; (simp +arith)) ?_
  ·rw [Heap.get?_push_size _ (by rfl)] at e1
   cases e1; cases e2; cases e3
   exact Nat.le_refl _
  refine ⟨t,.ref p,rawInt pos,rawInt lim,rawInt m.lastindex,s.heap.objs.size,?_,?_⟩
  ·exact Heap.get?_push_size _ rfl
  ·refine Heap.get?_push_of_some _ ?_
   subst hsp
   rw [<- F.start,<- F.handed]
   exact Heap.get?_push_size _ rfl
 cases hg with
 | zero =>
  unfold reNewMatch
  exact fin [] rfl (by decide)
 | one hbe =>
  rename_i b e
  unfold reNewMatch
  have h1:(List.range 1) = [0]:=rfl
  simp only [h1,List.flatMap_cons,List.flatMap_nil,List.any_cons,List.any_nil,F.marks,F.lm]
  have hlt:decide (e < b) = false:=decide_eq_false (by lia)
  have c1:(if (((2 * 0 + 1:Nat):Int) <= 1) then ((#[some b,some e]:Array (Option Nat)).getD (2 * 0) none,(#[some b,some e]:Array (Option Nat)).getD (2 * 0 + 1) none) else (none,none)) = (some b,some e):=rfl
  simp only [c1]
  show wpAny M A (if ((decide (((1:Nat):Int) <= 1) && decide (e < b)) || false) = true then _ else _) Q E s
  rw [hlt]
  exact fin [rawInt b,rawInt e] rfl (Nat.le_refl _)
theorem wp_answer {m:Sre.M} {k:Nat} {r:Hit} {Q:Value -> Shared -> Prop} (h:RxRes k m r) (hk:k <= 1000000000000000000)
  (hn:r = none -> Q .none s)
  (hs:∀ st hd mks lm li,r = some (st,hd,mks,lm,li) -> ∃ gr,Grps g mks lm gr /\
   ∀ a h',(∀ b o,s.heap.get? b = some o -> h'.get? b = some o) -> FreshM s.heap.objs.size h' a -> s.heap.objs.size <= h'.objs.size -> IsMatch h' a x st hd gr -> Q (.ref a) { s with heap:=h' }) :
  wpAny M A (reAnswer (tgt p x t code g) m) (fun fin s' => ∃ v,fin = .done (.ret v) /\ Q v s') E s:=by
 unfold reAnswer
 refine wpAny_bind (wp_reRunToEnd h hk (fun e => ?_) fun st hd mks lm li m' e F => ?_)
 ·exact wpAny_pure ⟨_,rfl,hn e⟩
 ·refine xEA (hs st hd mks lm li e) fun gr hg q => ?_
  exact wpAny_bind (wp_newMatch F hg fun a h' k1 k2 k3 k4 => wpAny_pure ⟨_,rfl,q a h' k1 k2 k3 k4⟩)
end
section
variable {prog:Program} {w:World} {A:Around} {E:Value -> Shared -> Prop} {s:Shared} {p:Addr} {code:Array Nat} {g:Nat} {x:Str} {t:Tok}
theorem IsPat.type (hp:IsPat s.heap p code g):s.TypeIs (.ref p) "re.Pattern":=by
 refine xEEEEEEEAA (hp.ex) fun x0 x1 x3 x4 tp ob n e1 _ _ => ?_
 exact ⟨_,e1,rfl⟩
theorem call_search {k:Nat} {r:Hit} {Q:Value -> Shared -> Prop} (hp:IsPat s.heap p code g) (hx:x.cps.size <= 10000) (h:RxRes k (Sre.forSearch code x.cps g 0 x.cps.size false) r) (hk:k <= 1000000000000000000)
  (hn:r = none -> Q .none s)
  (hs:∀ st hd mks lm li,r = some (st,hd,mks,lm,li) -> ∃ gr,Grps g mks lm gr /\
   ∀ a h',(∀ b o,s.heap.get? b = some o -> h'.get? b = some o) -> FreshM s.heap.objs.size h' a -> s.heap.objs.size <= h'.objs.size -> IsMatch h' a x st hd gr -> Q (.ref a) { s with heap:=h' }) :
  wpAny (model prog w) A (call (.builtin "re.Pattern.search") [.ref p,.str x t]) Q E s:=by
 refine wpAny_call_entry slot_search hp.type entry_search ?_ (args_search _ _)
 unfold Builtin.«re.Pattern.search»
 exact wpAny_bind (wp_target (by lia) hp (wp_answer h hk hn hs))
theorem call_fullmatch {k:Nat} {r:Hit} {Q:Value -> Shared -> Prop} (hp:IsPat s.heap p code g) (hx:x.cps.size <= 10000) (h:RxRes k (Sre.forMatch code x.cps g 0 x.cps.size true false) r) (hk:k <= 1000000000000000000)
  (hn:r = none -> Q .none s)
  (hs:∀ st hd mks lm li,r = some (st,hd,mks,lm,li) -> ∃ gr,Grps g mks lm gr /\
   ∀ a h',(∀ b o,s.heap.get? b = some o -> h'.get? b = some o) -> FreshM s.heap.objs.size h' a -> s.heap.objs.size <= h'.objs.size -> IsMatch h' a x st hd gr -> Q (.ref a) { s with heap:=h' }) :
  wpAny (model prog w) A (call (.builtin "re.Pattern.fullmatch") [.ref p,.str x t]) Q E s:=by
 refine wpAny_call_entry slot_fullmatch hp.type entry_fullmatch ?_ (args_fullmatch _ _)
 unfold Builtin.«re.Pattern.fullmatch»
 exact wpAny_bind (wp_target (by lia) hp (wp_answer h hk hn hs))
end
theorem ga_mat:Slot "re.Match" "__getattribute__" "object.__getattribute__":=
 .of (owner:="object") (n:="__getattribute__") (by rw [typeLookup_type,builtinLookup_eq_fast]; kernel_rfl) (by decide +kernel) (by decide +kernel) (by decide +kernel)
  (by first | exact .inl (by decide +kernel) | exact .inr (by decide +kernel)) (by rw [isSubtype_type]; kernel_rfl)
theorem entry_oga:entryFor table "object.__getattribute__" = some Builtin.«object.__getattribute__»:=entryFor_of_tree (by kernel_rfl)
theorem args_oga (a b:Value):argsOk "object.__getattribute__" ⟨[a,b],[]⟩:=by unfold argsOk; kernel_rfl
theorem lk_string:typeLookup (.type "re.Match") "string" = pure (some (.builtin "re.Match.string")):=by rw [typeLookup_type,builtinLookup_eq_fast]; kernel_rfl
theorem ty_string:typeOf (.builtin "re.Match.string") = pure (.type "member_descriptor"):=by show builtinType _ = _; rw [builtinType_eq_fast]; kernel_rfl
theorem en_string:entryFor table "re.Match.string" = some Builtin.«re.Match.string»:=entryFor_of_tree (by kernel_rfl)
theorem ow_string:(".".intercalate ("re.Match.string".cutAt '.').dropLast) = "re.Match":=by
 have e0:"re.Match.string".cutAt '.' = ["re","Match","string"]:=by first | rfl | decide +kernel
 rw [e0]; decide +kernel
theorem sub_mat:isSubtype (.type "re.Match") (.type "re.Match") = pure true:=by rw [isSubtype_type]; kernel_rfl
theorem slot_mb_get:Slot "member_descriptor" "__get__" "member_descriptor.__get__":=
 .of (owner:="member_descriptor") (n:="__get__") (by rw [typeLookup_type,builtinLookup_eq_fast]; kernel_rfl) (by decide +kernel) (by decide +kernel) (by decide +kernel)
  (by first | exact .inl (by decide +kernel) | exact .inr (by decide +kernel)) (by rw [isSubtype_type]; kernel_rfl)
theorem slot_mb_set:Slot "member_descriptor" "__set__" "member_descriptor.__set__":=
 .of (owner:="member_descriptor") (n:="__set__") (by rw [typeLookup_type,builtinLookup_eq_fast]; kernel_rfl) (by decide +kernel) (by decide +kernel) (by decide +kernel)
  (by first | exact .inl (by decide +kernel) | exact .inr (by decide +kernel)) (by rw [isSubtype_type]; kernel_rfl)
theorem entry_mb_get:entryFor table "member_descriptor.__get__" = some Builtin.«member_descriptor.__get__»:=entryFor_of_tree (by kernel_rfl)
theorem args_mb_get (a b c:Value):argsOk "member_descriptor.__get__" ⟨[a,b,c],[]⟩:=by unfold argsOk; kernel_rfl
section
variable {prog:Program} {w:World} {A:Around} {E:Value -> Shared -> Prop} {h:Heap} {g:Array GenState} {d:Drawn} {t:Nat} {os:OsState} {a:Addr} {o:Obj} {vs:Array Value} {x:Str} {tx:Tok}
theorem str_get {R:Result -> Shared -> Prop} (hx:h.get? a = some o) (hc:o.cls = .type "re.Match") (hd:o.data = .fields vs) (h0:vs[0]? = some (.str x tx)) (hq:R (.ok (.ret (.str x tx))) ⟨h,g,d,t,os⟩) :
  codeAny (model prog w) A (.call (.builtin "member_descriptor.__get__") ⟨[.builtin "re.Match.string",.ref a,.type "re.Match"],[]⟩) R ⟨h,g,d,t,os⟩:=by
 have hT:(⟨h,g,d,t,os⟩:Shared).TypeIs (.ref a) "re.Match":=⟨_,hx,hc⟩
 have hT5:(⟨h,g,d,t,os⟩:Shared).TypeIs (.builtin "re.Match.string") "member_descriptor":=ty_string
 have f8:isSubtype (.type "re.Match") (.type (".".intercalate ("re.Match.string".cutAt '.').dropLast)) = pure true:=by rw [ow_string]; exact sub_mat
 refine codeAny_call_builtin slot_mb_get.plain entry_mb_get (slot_mb_get.check _ _ _ _ _ _ _ _ hT5 (args_mb_get _ _ _) ?_)
 unfold Builtin.«member_descriptor.__get__»
 repeat (any_goals (first | assumption | wp_step))
 refine ⟨Code.quiet_builtin _ (by decide +kernel),codeAny_builtin en_string ?_⟩
 unfold Builtin.«re.Match.string»
 exact wpAny_bind (wpAny_field hx hd h0 (wpAny_pure hq))
theorem str_entry {tk:Tok} {Q:Fin -> Shared -> Prop} (hx:h.get? a = some o) (hc:o.cls = .type "re.Match") (hd:o.data = .fields vs) (h0:vs[0]? = some (.str x tx)) (hq:Q (.done (.ret (.str x tx))) ⟨h,g,d,t,os⟩) :
  wpAny (model prog w) A (Builtin.«object.__getattribute__» ⟨[.ref a,.str "string" tk],[]⟩) Q E ⟨h,g,d,t,os⟩:=by
 have hT:(⟨h,g,d,t,os⟩:Shared).TypeIs (.ref a) "re.Match":=⟨_,hx,hc⟩
 have hT5:(⟨h,g,d,t,os⟩:Shared).TypeIs (.builtin "re.Match.string") "member_descriptor":=ty_string
 have f4:=lk_string
 have f5:=ty_string
 have f6:=slot_mb_get.lookup
 have f7:=slot_mb_set.lookup
 repeat (any_goals (first | assumption | wp_step))
 refine str_get hx hc hd h0 ?_
 repeat (any_goals (first | assumption | wp_step))
theorem str_attr {expr:Bool} {Q:Value -> Shared -> Prop} (hx:h.get? a = some o) (hc:o.cls = .type "re.Match") (hd:o.data = .fields vs) (h0:vs[0]? = some (.str x tx))
  (hq:Q (.str x tx) ⟨h,g,d,t + 1,os⟩):wpAny (model prog w) A (getAttr (.ref a) "string" expr) Q E ⟨h,g,d,t,os⟩:=by
 have hT:∀ t,(⟨h,g,d,t,os⟩:Shared).TypeIs (.ref a) "re.Match":=fun _ => ⟨_,hx,hc⟩
 have f2:=ga_mat.lookup
 have f3:=ga_mat.bind (.ref a)
 have hx0:(expr && onTheHeap (Value.builtin "object.__getattribute__")) = false:=by cases expr <;> rfl
 unfold getAttr
 refine wpAny_bind (wpAny_mkText ?_)
 have hT1:=hT (t + 1)
 repeat (any_goals (first | assumption | wp_step))
 refine codeAny_call_builtin ga_mat.plain entry_oga (ga_mat.check _ _ _ _ _ _ _ _ hT1 (args_oga _ _) (str_entry hx hc hd h0 ?_))
 repeat (any_goals (first | assumption | wp_step))
end
section
variable {prog:Program} {w:World} {A:Around} {E:Value -> Shared -> Prop} {s:Shared} {a:Addr} {x:Str} {st hd:Nat} {gr:List (Nat × Nat)}
theorem IsMatch.type (hm:IsMatch s.heap a x st hd gr):s.TypeIs (.ref a) "re.Match":=by
 refine xEEEEEEA (hm) fun t p pos lim li tp e1 e2 => ?_
 exact ⟨_,e1,rfl⟩
theorem wp_found {M:Model} {Q:ReFound -> Shared -> Prop} (hm:IsMatch s.heap a x st hd gr)
  (h:∀ t p pos lim li tp,Q { fields:=#[.str x t,p,pos,lim,li,.ref tp],spans:=((spansOf st hd gr).map reRawOf).toArray } s):wpAny M A (reFound (.ref a)) Q E s:=by
 refine xEEEEEEA (hm) fun t p pos lim li tp e1 e2 => ?_
 unfold reFound
 refine wpAny_bind (wpAny_fieldsOf e1 rfl ?_)
 refine wpAny_bind (wp_items e2 rfl (wpAny_pure ?_))
 rw [List.map_toArray]
 exact h t p pos lim li tp
theorem extract_le {xs:Array Nat} {b e:Nat} (h:xs.size <= 10000):(⟨xs.extract b e⟩:Str).length <= sizeLine:=by
 show (xs.extract b e).size <= _
 rw [Array.size_extract,show sizeLine = 16777216 from rfl]; exact Nat.le_trans (Nat.sub_le _ _) (Nat.le_trans (Nat.min_le_right _ _) (Nat.le_trans h (by decide)))
theorem groupNo (x:ReFound) (i:Int) (tk:Tok) (hi:0 <= i) (h:2 * i < x.spans.size):reGroupNumber x (.int i tk) = pure i.toNat:=by
 have hn:¬ ((decide (i < 0) || decide (2 * i ≥ (x.spans.size:Nat))) = true):=by simp only [Bool.or_eq_true,decide_eq_true_eq]; lia
 exact if_neg hn
theorem call_group1 {b e:Nat} {tk:Tok} {Q:Value -> Shared -> Prop} (hm:IsMatch s.heap a x st hd [(b,e)]) (hx:x.cps.size <= 10000)
  (h:Q (.str ⟨x.cps.extract b e⟩ s.toks) { s with toks:=s.toks + 1 }):wpAny (model prog w) A (call (.builtin "re.Match.group") [.ref a,.int 1 tk]) Q E s:=by
 refine wpAny_call_entry slot_group hm.type entry_group ?_ (args_group _ _)
 unfold Builtin.«re.Match.group»
 refine wpAny_bind (m:=noKeywords _ _) (wpAny_pure ?_)
 simp only
 refine wpAny_bind (wp_found hm fun t p pos lim li tp => ?_)
 refine wpAny_bind (m:=reGroupNumber _ _) (wpAny_of_eq (groupNo _ 1 tk (by decide) (by show (2:Int) * 1 < ((4:Nat):Int); decide)) ?_)
 show wpAny _ _ (reGroupText _ 1 .none >>= fun v => ret v) _ _ _
 refine wpAny_bind (m:=reGroupText _ 1 .none) ?_
 unfold reGroupText
 have e1:((spansOf st hd [(b,e)]).map reRawOf).toArray.getD (2 * 1) (-1) = (b:Int):=rfl
 have e2:((spansOf st hd [(b,e)]).map reRawOf).toArray.getD (2 * 1 + 1) (-1) = (e:Int):=rfl
 dsimp only [e1,e2]
 rw [if_neg (by simp only [Bool.or_eq_true,decide_eq_true_eq]; (omega))]
 refine wpAny_bind (m:=reTextOf (.str x t)) (wpAny_of_eq (a:=(x.cps,0)) rfl ?_)
 show wpAny _ _ (mkStr ⟨x.cps.extract (b:Int).toNat (e:Int).toNat⟩) _ _ _
 refine wpAny_mkStr (wpAny_pure ⟨_,rfl,?_⟩) (extract_le hx)
 exact h
theorem call_span0 {tk:Tok} {Q:Value -> Shared -> Prop} (hm:IsMatch s.heap a x st hd gr)
  (h:Q (.ref s.heap.objs.size) { s with toks:=s.toks + 1 + 1,heap:=s.heap.push { cls:=.type "tuple",data:=.seq #[.int st s.toks,.int hd (s.toks + 1)] } }) :
  wpAny (model prog w) A (call (.builtin "re.Match.span") [.ref a,.int 0 tk]) Q E s:=by
 refine wpAny_call_entry slot_span hm.type entry_span ?_ (args_span _ _)
 unfold Builtin.«re.Match.span» reOneGroup
 refine wpAny_bind (wpAny_bind (m:=selfAndSome _ _ _ _ _) (wpAny_of_eq (a:=(.ref a,[.int 0 tk])) rfl ?_))
 simp only
 refine wpAny_bind (wp_found hm fun t p pos lim li tp => ?_)
 have hz:2 * (0:Int) < ((((spansOf st hd gr).map reRawOf).toArray).size:Nat):=by
  simp only [spansOf,List.size_toArray,List.length_map,List.length_cons]
  lia
 refine wpAny_bind (m:=reGroupNumber _ _) (wpAny_of_eq (groupNo _ 0 tk (by decide) hz) ?_)
 refine wpAny_pure ?_
 show wpAny _ _ (do ret (<- newTuple [<- mkInt st,<- mkInt hd])) _ _ _
 refine wpAny_bind (wpAny_mkInt ?_)
 refine wpAny_bind (wpAny_mkInt ?_)
 refine wpAny_bind (wpAny_newTuple ?_ (by show 2 <= sizeLine; decide))
 exact wpAny_pure ⟨_,rfl,h⟩
theorem wp_push {M:Model} {l:Addr} {items:Array Value} {v:Value} {Q:Unit -> Shared -> Prop} (hl:s.heap.IsList l items) (hsz:items.size <= sizeLine)
  (hQ:∀ h',h'.IsList l (items.push v) -> Heap.SameBut l s.heap h' -> Q () { s with heap:=h' }):wpAny M A (updateSeq l (·.push v)) Q E s:=by
 refine xEAAE (id hl) fun o ho hc n hd => ?_
 obtain ⟨n',hd'⟩:=Obj.data_mapSeq hd (·.push v)
 refine wpAny_updateSeq ho hd (hQ _ ?_ (Heap.SameBut.update ..))
 exact ⟨_,Heap.get?_update_self _ ho (Obj.isFreed_of_seq hd'),(Obj.cls_mapSeq ..).trans hc,n',hd'⟩
end
noncomputable def Ext (h h':Heap):Prop:=∀ b o,h.get? b = some o -> h'.get? b = some o
theorem Ext.refl (h:Heap):Ext h h:=fun _ _ e => e
theorem Ext.trans {a b c:Heap} (x:Ext a b) (y:Ext b c):Ext a c:=fun _ _ e => y _ _ (x _ _ e)
theorem Ext.push {h:Heap} (o:Obj):Ext h (h.push o):=fun _ _ e => Heap.get?_push_of_some _ e
theorem Ext.same {h₀ h h':Heap} {l:Addr} (x:Ext h₀ h) (hl:h₀.get? l = none) (s:Heap.SameBut l h h'):Ext h₀ h':=fun b o e => by
 have:b ≠ l:=fun q => by rw [q,hl] at e; cases e
 exact (s.2 b this).trans (x b o e)
theorem IsPat.ext {h h':Heap} {p:Addr} {code:Array Nat} {g:Nat} (x:IsPat h p code g) (k:Ext h h'):IsPat h' p code g:=by
 refine xEEEEEEEAA (x.ex) fun x0 x1 x3 x4 tp ob n e1 e2 e3 => ?_
 exact ⟨x0,x1,x3,x4,tp,ob,n,k _ _ e1,k _ _ e2,e3⟩
noncomputable abbrev tl (y:Str):List Nat:=y.cps.toList
noncomputable abbrev mkS (l:List Nat):Str:=⟨l.toArray⟩
theorem mkS_tl (y:Str):mkS (tl y) = y:=rfl
noncomputable def catL (ys:List (Str × Tok)):List Nat:=ys.flatMap fun y => tl y.1
theorem glued_empty (parts:List Str):Builtin.Str.glued ⟨#[]⟩ parts = mkS (parts.flatMap tl):=by
 unfold Builtin.Str.glued
 cases parts with
 | nil => rfl
 | cons p r =>
  have:∀ (r:List Str) (acc:Array Nat),(r.foldl (fun acc p => acc ++ (⟨#[]⟩:Str).cps ++ p.cps) acc) = (acc.toList ++ r.flatMap tl).toArray:=by
   intro r
   induction r with
   | nil => intro acc; simp
   | cons q r ih =>
    intro acc
    rw [List.foldl_cons,ih]
    simp [List.flatMap_cons]
  show (⟨_⟩:Str) = _
  rw [show (p :: r).drop 1 = r from rfl,show (p :: r).headD Str.empty = p from rfl,this]
  rfl
theorem len_fold (l:List Str) (n:Nat):(l.toArray.foldl (· + ·.length + (⟨#[]⟩:Str).length) n) = n + (l.flatMap tl).length:=by
 rw [List.foldl_toArray']
 ·induction l generalizing n with
  | nil => rfl
  | cons p r ih =>
   rw [List.foldl_cons,ih,List.flatMap_cons,List.length_append]
   show n + p.cps.size + 0 + _ = _
   show n + p.cps.toList.length + 0 + _ = n + (p.cps.toList.length + _)
   lia
 ·rfl
section
variable {prog:Program} {w:World} {A:Around} {E:Value -> Shared -> Prop} {s:Shared}
theorem call_join0 {l:Addr} {ys:List (Str × Tok)} {t:Tok} {Q:Value -> Shared -> Prop} (hl:s.heap.IsList l (strValues ys).toArray) (hsz:(catL ys).length <= sizeLine)
  (h:∀ tk tk',Q (.str (mkS (catL ys)) tk) { s with toks:=tk' }):wpAny (model prog w) A (call (.builtin "str.join") [.str ⟨#[]⟩ t,.ref l]) Q E s:=by
 have hcat:(ys.map (·.1)).flatMap tl = catL ys:=by unfold catL; rw [List.flatMap_map]
 refine call_meets slot_str_join (rfl:s.TypeIs (.str ⟨#[]⟩ t) "str") entry_str_join (args_str_join_2 _ _) (meets_str_join_list ⟨#[]⟩ t l ys ?_) ⟨hl,?_⟩
 ·unfold Builtin.Str.tooLong
  rw [len_fold,hcat,Nat.zero_add]
  exact decide_eq_false (Nat.not_lt.mpr hsz)
 ·have hs:(Made.str (Builtin.Str.glued ⟨#[]⟩ (ys.map (·.1)))).post (fun v s' => Q v s') s:=by
   rw [glued_empty,hcat]
   exact ⟨hsz,h _ _⟩
  unfold joinMade
  match ys,h,hs with
  | [],_,hs => exact hs
  | [p],h,_ =>
   have:=h p.2 s.toks
   have e:mkS (catL [p]) = p.1:=by unfold catL; simp
   rw [e] at this
   exact this
  | p :: q :: r,_,hs => exact hs
structure Finds (code T:Array Nat) (g:Nat) (nxt:Nat -> Option (Nat × Nat × List (Nat × Nat))):Prop where
 no:∀ q,q <= T.size -> nxt q = none -> ∃ k,k <= 1000000000000000000 /\ RxRes k (Sre.forSearch code T g q T.size false) none
 yes:∀ q st hd gr,q <= T.size -> nxt q = some (st,hd,gr) -> q <= st /\ st < hd /\ hd <= T.size /\ ∃ k mks lm li,k <= 1000000000000000000 /\ Grps g mks lm gr /\ RxRes k (Sre.forSearch code T g q T.size false) (some (st,hd,mks,lm,li))
noncomputable def subOut (T:Array Nat) (nxt:Nat -> Option (Nat × Nat × List (Nat × Nat))) (item:Nat -> Nat -> List (Nat × Nat) -> Str):Nat -> Nat -> List Nat
 | 0,_ => []
 | n + 1,q => match nxt q with
  | none => T.toList.drop q
  | some (st,hd,gr) => (T.toList.drop q).take (st - q) ++ tl (item st hd gr) ++ subOut T nxt item n hd
theorem extract_list (T:Array Nat) (b e:Nat):tl ⟨T.extract b e⟩ = (T.toList.drop b).take (e - b):=by
 show (T.extract b e).toList = _
 rw [Array.toList_extract,List.extract_eq_take_drop]
theorem catL_snoc (ys:List (Str × Tok)) (y:Str) (k:Tok):catL (ys ++ [(y,k)]) = catL ys ++ tl y:=by
 unfold catL; rw [List.flatMap_append]; simp
theorem strValues_snoc (ys:List (Str × Tok)) (y:Str) (k:Tok):(strValues ys).toArray.push (.str y k) = (strValues (ys ++ [(y,k)])).toArray:=by
 unfold strValues; simp
section
variable {prog:Program} {w:World} {A:Around} {s:Shared} {p l:Addr} {code:Array Nat} {g:Nat} {x:Str} {t:Tok} {h₀:Heap}
 {nxt:Nat -> Option (Nat × Nat × List (Nat × Nat))} {item:Nat -> Nat -> List (Nat × Nat) -> Str} {repl:Value} {way:Int}
noncomputable def ItemOk (prog:Program) (w:World) (A:Around) (h₀:Heap) (x:Str) (nxt:Nat -> Option (Nat × Nat × List (Nat × Nat))) (item:Nat -> Nat -> List (Nat × Nat) -> Str) (repl:Value) (way:Int):Prop:=
 (way = 0 /\ ∃ r tr,repl = .str r tr /\ ∀ st hd gr,item st hd gr = r) \/
 (way = 1 /\ ∀ (s':Shared) (a:Addr) (q st hd:Nat) (gr:List (Nat × Nat)) (Q:Value -> Shared -> Prop) (E:Value -> Shared -> Prop),q <= x.cps.size -> nxt q = some (st,hd,gr) -> Ext h₀ s'.heap -> IsMatch s'.heap a x st hd gr ->
  (∀ tk h' tk',Ext s'.heap h' -> s'.heap.objs.size <= h'.objs.size -> Q (.str (item st hd gr) tk) { s' with heap:=h',toks:=tk' }) -> wpAny (model prog w) A.in1 (call repl [.ref a]) Q E s')
theorem isList_ext {h h':Heap} {l:Addr} {items:Array Value} (x:h.IsList l items) (k:Ext h h'):h'.IsList l items:=by
 obtain ⟨o,e,r⟩:=x; exact ⟨o,k _ _ e,r⟩
end
end
noncomputable def loopArgs (p l:Addr) (x:Str) (t:Tok) (repl:Value) (way:Int) (k q:Nat) (must wc:Bool):Args:=⟨[.ref p,.str x t,repl,rawInt way,rawInt 0,rawInt k,rawInt q,rawInt q,.bool must,.ref l,.bool wc],[]⟩
noncomputable def gapK (x:Str) (l:Addr) (q st:Nat) (K:Sem Fin):Sem Fin:=
 if q < st then (reSlice x.cps 0 q st >>= fun v => updateSeq l (fun a => a.push v) >>= fun _ => K) else K
noncomputable def pushK (l:Addr) (v:Value) (c:Code):Sem Fin:=
 if (v != .none) = true then (updateSeq l (fun a => a.push v) >>= fun _ => again c) else again c
noncomputable def finK (wc:Bool) (k:Nat) (text:Value):Sem Fin:=if wc = true then (do ret (<- holding [text] do newTuple [text,<- mkInt k])) else ret text
noncomputable def endK (x:Str) (l:Addr) (wc:Bool) (k:Nat):Sem Fin:=
 reSlice x.cps 0 0 0 >>= fun joiner => seqItems? (.ref l) >>= fun items =>
  if (items.getD #[]).isEmpty = true then (pure joiner >>= fun text => finK wc k text) else (call (.builtin "str.join") [joiner,.ref l] >>= fun text => finK wc k text)
noncomputable def nextC (p l:Addr) (x:Str) (t:Tok) (repl:Value) (way:Int) (k st hd:Nat) (wc:Bool):Code:=
 .builtin "re.Pattern.sub.loop" ⟨[.ref p,.str x t,repl,rawInt way,rawInt 0,rawInt ((k:Int) + 1),rawInt hd,rawInt hd,.bool (hd == st),.ref l,.bool wc],[]⟩
noncomputable def turnG (p l:Addr) (x:Str) (t:Tok) (k q:Nat) (must wc:Bool) (onF:ReTarget -> Sre.M -> Sem Fin):Sem Fin:=reWholeTarget (.ref p) (.str x t) >>= fun tg => reNextFound tg q must >>= fun f => match f with
 | some m => if q < m.start then (reSlice tg.text tg.kind q m.start >>= fun v => updateSeq l (fun a => a.push v) >>= fun _ => onF tg m) else onF tg m
 | none => if q < tg.lim then (reSlice tg.text tg.kind q tg.lim >>= fun v => updateSeq l (fun a => a.push v) >>= fun _ => reSlice tg.text tg.kind 0 0 >>= fun joiner => seqItems? (.ref l) >>= fun items =>
       if (items.getD #[]).isEmpty = true then (pure joiner >>= fun text => finK wc k text) else (call (.builtin (if tg.kind == 0 then "str.join" else "bytes.join")) [joiner,.ref l] >>= fun text => finK wc k text))
     else (reSlice tg.text tg.kind 0 0 >>= fun joiner => seqItems? (.ref l) >>= fun items =>
       if (items.getD #[]).isEmpty = true then (pure joiner >>= fun text => finK wc k text) else (call (.builtin (if tg.kind == 0 then "str.join" else "bytes.join")) [joiner,.ref l] >>= fun text => finK wc k text))
theorem tree0 (p l:Addr) (x:Str) (t:Tok) (r:Str) (tr:Tok) (k q:Nat) (must wc:Bool) :
  Builtin.«re.Pattern.sub.loop» (loopArgs p l x t (.str r tr) 0 k q must wc) = turnG p l x t k q must wc fun _ m => pure (Value.str r tr) >>= fun v => pushK l v (nextC p l x t (.str r tr) 0 k m.start m.handed wc):=rfl
theorem tree1 (p l:Addr) (x:Str) (t:Tok) (repl:Value) (k q:Nat) (must wc:Bool) :
  Builtin.«re.Pattern.sub.loop» (loopArgs p l x t repl 1 k q must wc) = turnG p l x t k q must wc fun tg m => reNewMatch (.ref p) (.str x t) tg.groups 0 tg.lim m >>= fun found => holding [found] (call repl [found]) >>= fun v => pushK l v (nextC p l x t repl 1 k m.start m.handed wc):=rfl
section
variable {prog:Program} {w:World} {A:Around} {s:Shared} {p l:Addr} {code:Array Nat} {g:Nat} {x:Str} {t:Tok} {h₀:Heap} {E:Value -> Shared -> Prop}
 {nxt:Nat -> Option (Nat × Nat × List (Nat × Nat))} {item:Nat -> Nat -> List (Nat × Nat) -> Str} {repl:Value} {way:Int}
theorem wp_gapK {M:Model} {q st:Nat} {ys:List (Str × Tok)} {K:Sem Fin} {Q:Fin -> Shared -> Prop} (hx:x.cps.size <= 10000) (hl0:h₀.get? l = none) (hk:Ext h₀ s.heap) (hl:s.heap.IsList l (strValues ys).toArray) (hn:ys.length <= 100000)
  (h:∀ h' tk ys',Ext h₀ h' -> h'.IsList l (strValues ys').toArray -> catL ys' = catL ys ++ (x.cps.toList.drop q).take (st - q) -> ys'.length <= ys.length + 1 -> wpAny M A K Q E { s with heap:=h',toks:=tk }) :
  wpAny M A (gapK x l q st K) Q E s:=by
 unfold gapK
 by_cases hlt:q < st
 ·rw [if_pos hlt]
  show wpAny M A (mkStr ⟨x.cps.extract q st⟩ >>= fun v => updateSeq l (fun a => a.push v) >>= fun _ => K) Q E s
  refine wpAny_bind (wpAny_mkStr ?_ (extract_le hx))
  refine wpAny_bind (wp_push hl (by simp only [strValues,List.size_toArray,List.length_map]; rw [show sizeLine = 16777216 from rfl]; lia) fun h' hi hs => ?_)
  refine h h' _ (ys ++ [(⟨x.cps.extract q st⟩,s.toks)]) (hk.same hl0 hs) ?_ ?_ (by simp)
  ·rw [<- strValues_snoc]; exact hi
  ·rw [catL_snoc,extract_list]
 ·rw [if_neg hlt]
  have:st - q = 0:=Nat.sub_eq_zero_of_le (Nat.le_of_not_lt hlt)
  exact h s.heap s.toks ys hk hl (by rw [this]; simp) (by (exact Nat.le_succ _))
theorem wp_pushK {M:Model} {ys:List (Str × Tok)} {y:Str} {ty:Tok} {c:Code} {Q:Fin -> Shared -> Prop} (hl0:h₀.get? l = none) (hk:Ext h₀ s.heap) (hl:s.heap.IsList l (strValues ys).toArray) (hn:ys.length <= 100000)
  (h:∀ h',Ext h₀ h' -> h'.IsList l (strValues (ys ++ [(y,ty)])).toArray -> Q (.again c) { s with heap:=h' }):wpAny M A (pushK l (.str y ty) c) Q E s:=by
 unfold pushK
 rw [if_pos (show (Value.str y ty != Value.none) = true from rfl)]
 refine wpAny_bind (wp_push hl (by simp only [strValues,List.size_toArray,List.length_map]; rw [show sizeLine = 16777216 from rfl]; lia) fun h' hi hs => ?_)
 exact wpAny_pure (h h' (hk.same hl0 hs) (by rw [<- strValues_snoc]; exact hi))
theorem wp_endK {ys:List (Str × Tok)} {wc:Bool} {k:Nat} {Q:Fin -> Shared -> Prop} (hl:s.heap.IsList l (strValues ys).toArray) (hsz:(catL ys).length <= sizeLine)
  (h:∀ tk tk',wpAny (model prog w) A (finK wc k (.str (mkS (catL ys)) tk)) Q E { s with toks:=tk' }):wpAny (model prog w) A (endK x l wc k) Q E s:=by
 unfold endK
 show wpAny _ _ (mkStr ⟨x.cps.extract 0 0⟩ >>= _) _ _ _
 have e0:x.cps.extract 0 0 = #[]:=by simp
 rw [e0]
 refine wpAny_bind (wpAny_mkStr ?_ (Nat.zero_le _))
 refine xEAAE (id hl) fun o ho hc n hd => ?_
 refine wpAny_bind (wpAny_seqItems (s:={ s with toks:=s.toks + 1 }) ho hd ?_)
 cases ys with
 | nil =>
  rw [if_pos (by rfl)]
  exact wpAny_bind (wpAny_pure (h s.toks (s.toks + 1)))
 | cons y r =>
  rw [if_neg (by simp [strValues])]
  exact wpAny_bind (call_join0 (s:={ s with toks:=s.toks + 1 }) hl hsz fun tk tk' => h tk tk')
theorem subOut_none {T:Array Nat} {n q:Nat} (h:nxt q = none):subOut T nxt item (n + 1) q = T.toList.drop q:=by
 show (match nxt q with | none => T.toList.drop q | some (st,hd,gr) => (T.toList.drop q).take (st - q) ++ tl (item st hd gr) ++ subOut T nxt item n hd) = _
 rw [h]
theorem subOut_some {T:Array Nat} {n q st hd:Nat} {gr:List (Nat × Nat)} (h:nxt q = some (st,hd,gr)):subOut T nxt item (n + 1) q = (T.toList.drop q).take (st - q) ++ tl (item st hd gr) ++ subOut T nxt item n hd:=by
 show (match nxt q with | none => T.toList.drop q | some (st,hd,gr) => (T.toList.drop q).take (st - q) ++ tl (item st hd gr) ++ subOut T nxt item n hd) = _
 rw [h]
theorem sub_fin {n q k:Nat} {ys:List (Str × Tok)} {Q:Fin -> Shared -> Prop} (hx:x.cps.size <= 10000) (hl0:h₀.get? l = none) (hq:q <= x.cps.size) (hk:Ext h₀ s.heap) (hl:s.heap.IsList l (strValues ys).toArray) (hys:ys.length <= 2 * q) (hcat:(catL ys).length <= 3 * q)
  (hR:∀ h' tk tk',Ext h₀ h' -> Q (.done (.ret (.str (mkS (catL ys ++ subOut x.cps nxt item (n + 1) q)) tk))) { s with heap:=h',toks:=tk' }) (hno:nxt q = none):wpAny (model prog w) A (gapK x l q x.cps.size (endK x l false k)) Q E s:=by
 refine wp_gapK hx hl0 hk hl (by lia) fun h' tk ys' k1 k2 k3 k4 => ?_
 have hd:(x.cps.toList.drop q).take (x.cps.size - q) = x.cps.toList.drop q:=List.take_of_length_le (Nat.le_of_eq List.length_drop)
 rw [hd,<- subOut_none (n:=n) (item:=item) hno] at k3
 refine wp_endK (s:={ s with heap:=h',toks:=tk }) k2 ?_ fun tk1 tk2 => ?_
 ·have e1:(x.cps.toList.drop q).length = x.cps.size - q:=List.length_drop
  rw [k3,subOut_none hno,List.length_append,e1,show sizeLine = 16777216 from rfl]; lia
 ·rw [k3]
  exact wpAny_pure (hR h' tk1 tk2 k1)
theorem sub_go {M:Model} {k st hd:Nat} {wc:Bool} {gr:List (Nat × Nat)} {m:Sre.M} {mks:Array (Option Nat)} {lm li:Int} {ys':List (Str × Tok)} {ty:Tok} {Q:Fin -> Shared -> Prop} (hl0:h₀.get? l = none) (hF:FoundAt m st hd mks lm li) (h2:st < hd) (hn:ys'.length <= 100000)
  (k1:Ext h₀ s.heap) (k2:s.heap.IsList l (strValues ys').toArray)
  (h:∀ h',Ext h₀ h' -> h'.IsList l (strValues (ys' ++ [(item st hd gr,ty)])).toArray -> Q (.again (.builtin "re.Pattern.sub.loop" (loopArgs p l x t repl way (k + 1) hd false wc))) { s with heap:=h' }) :
  wpAny M A (pushK l (.str (item st hd gr) ty) (nextC p l x t repl way k m.start m.handed wc)) Q E s:=by
 have e:nextC p l x t repl way k m.start m.handed wc = .builtin "re.Pattern.sub.loop" (loopArgs p l x t repl way (k + 1) hd false wc):=by
  unfold nextC loopArgs
  rw [hF.start,hF.handed,beq_eq_false_iff_ne.mpr (Nat.ne_of_gt h2)]
  rfl
 rw [e]
 exact wp_pushK hl0 k1 k2 hn h
theorem wp_turnN {M:Model} {k q N:Nat} {wc:Bool} {onF:ReTarget -> Sre.M -> Sem Fin} {Q:Fin -> Shared -> Prop} (hp:IsPat s.heap p code g) (hN:N <= 1000000000000000000) (R:RxRes N (Sre.forSearch code x.cps g q x.cps.size false) none)
  (no:wpAny M A (gapK x l q x.cps.size (endK x l wc k)) Q E s):wpAny M A (turnG p l x t k q false wc onF) Q E s:=
 wpAny_bind (wp_whole hp (wpAny_bind (wp_run_none R hN no)))
theorem wp_turnY {M:Model} {k q N st hd:Nat} {mks:Array (Option Nat)} {lm li:Int} {wc:Bool} {onF:ReTarget -> Sre.M -> Sem Fin} {Q:Fin -> Shared -> Prop} {ys:List (Str × Tok)} (hx:x.cps.size <= 10000) (hp:IsPat s.heap p code g) (hl0:h₀.get? l = none) (hk:Ext h₀ s.heap) (hl:s.heap.IsList l (strValues ys).toArray) (hn:ys.length <= 100000)
  (hN:N <= 1000000000000000000) (R:RxRes N (Sre.forSearch code x.cps g q x.cps.size false) (some (st,hd,mks,lm,li))) (h1:q <= st)
  (yes:∀ m,FoundAt m st hd mks lm li -> ∀ h' tk ys',Ext h₀ h' -> h'.IsList l (strValues ys').toArray -> catL ys' = catL ys ++ (x.cps.toList.drop q).take (st - q) -> ys'.length <= ys.length + 1 -> wpAny M A (onF (tgt p x t code g) m) Q E { s with heap:=h',toks:=tk }) :
  wpAny M A (turnG p l x t k q false wc onF) Q E s:=by
 refine wpAny_bind (wp_whole hp (wpAny_bind (wp_run_some R hN fun m' hF => ?_)))
 show wpAny _ _ (gapK x l q m'.start (onF (tgt p x t code g) m')) _ _ _
 rw [hF.start]
 exact wp_gapK hx hl0 hk hl hn (yes _ hF)
theorem wp_turn {q k:Nat} {ys:List (Str × Tok)} {Q:Fin -> Shared -> Prop} (hx:x.cps.size <= 10000) (hp:IsPat h₀ p code g) (hl0:h₀.get? l = none) (F:Finds code x.cps g nxt) (hit:ItemOk prog w A h₀ x nxt item repl way) (hq:q <= x.cps.size) (hk:Ext h₀ s.heap) (hl:s.heap.IsList l (strValues ys).toArray) (hn:ys.length <= 99999)
  (no:nxt q = none -> wpAny (model prog w) A.in1 (gapK x l q x.cps.size (endK x l false k)) Q E s)
  (yes:∀ st hd gr h' tk ys' ty,nxt q = some (st,hd,gr) -> st < hd -> hd <= x.cps.size -> q <= st -> ys'.length <= ys.length + 1 -> catL ys' = catL ys ++ (x.cps.toList.drop q).take (st - q) ->
   Ext h₀ h' -> h'.IsList l (strValues (ys' ++ [(item st hd gr,ty)])).toArray -> Q (.again (.builtin "re.Pattern.sub.loop" (loopArgs p l x t repl way (k + 1) hd false false))) { s with heap:=h',toks:=tk }) :
  wpAny (model prog w) A.in1 (Builtin.«re.Pattern.sub.loop» (loopArgs p l x t repl way k q false false)) Q E s:=by
 cases hnx:nxt q with
 | none =>
  refine xEA (F.no q hq hnx) fun kk hkk hr => ?_
  rcases hit with ⟨rfl,r,tr,rfl,hit⟩ | ⟨rfl,hit⟩
  ·exact tree0 .. ▸ wp_turnN (hp.ext hk) hkk hr (no hnx)
  ·exact tree1 .. ▸ wp_turnN (hp.ext hk) hkk hr (no hnx)
 | some z =>
  refine xAAAEEEEAA (F.yes q z.1 z.2.1 z.2.2 hq hnx) fun h1 h2 h3 kk mks lm li hkk hG hr => ?_
  rcases hit with ⟨rfl,r,tr,rfl,hit⟩ | ⟨rfl,hit⟩
  ·rw [tree0]
   refine wp_turnY hx (hp.ext hk) hl0 hk hl (Nat.le_succ_of_le hn) hkk hr h1 fun m hF h' tk ys' k1 k2 k3 k4 => ?_
   have:=sub_go (M:=model prog w) (A:=A.in1) (E:=E) (p:=p) (x:=x) (t:=t) (repl:=.str r tr) (way:=0) (k:=k) (gr:=z.2.2) (item:=item) (s:={ s with heap:=h',toks:=tk }) (ty:=tr) hl0 hF h2 (Nat.le_trans k4 (Nat.succ_le_succ hn)) k1 k2 fun h4 k5 k6 => yes z.1 z.2.1 z.2.2 h4 tk ys' tr hnx h2 h3 h1 k4 k3 k5 k6
   rwa [hit] at this
  ·rw [tree1]
   refine wp_turnY hx (hp.ext hk) hl0 hk hl (Nat.le_succ_of_le hn) hkk hr h1 fun m hF h' tk ys' k1 k2 k3 k4 => ?_
   refine wpAny_bind (wp_newMatch (s:={ s with heap:=h',toks:=tk }) hF hG fun a h2' e1 e2 e3 e4 => ?_)
   refine wpAny_bind (wpAny_holding (hit { s with heap:=h2',toks:=tk } a q z.1 z.2.1 z.2.2 _ _ hq hnx (k1.trans e1) e4 fun ty h3' tk3 e5 e6 => ?_))
   exact sub_go (s:={ s with heap:=h3',toks:=tk3 }) hl0 hF h2 (Nat.le_trans k4 (Nat.succ_le_succ hn)) ((k1.trans e1).trans e5) (isList_ext k2 (Ext.trans e1 e5)) fun h4 k5 k6 => yes _ _ _ h4 tk3 ys' ty hnx h2 h3 h1 k4 k3 k5 k6
theorem cat_len {a b c q st hd:Nat} (h:a <= 3 * q) (h1:b <= st - q) (h2:c <= 2) (h3:q <= st) (h4:st < hd):a + (b + c) <= 3 * hd:=by lia
theorem ys_len {a b q st hd:Nat} (h:a <= b + 1) (h1:b <= 2 * q) (h3:q <= st) (h4:st < hd):a + 1 <= 2 * hd:=by lia
theorem ys_big {a q n:Nat} (h:a <= 2 * q) (h1:q <= n) (h2:n <= 10000):a <= 99999:=by lia
theorem sub_loop {R:Result -> Shared -> Prop} (hx:x.cps.size <= 10000) (hp:IsPat h₀ p code g) (hl0:h₀.get? l = none) (F:Finds code x.cps g nxt) (hit:ItemOk prog w A h₀ x nxt item repl way)
  (hsz:∀ st hd gr,(tl (item st hd gr)).length <= 2) (n:Nat) :
  ∀ (q k:Nat) (ys:List (Str × Tok)) (s:Shared),x.cps.size - q < n -> q <= x.cps.size -> Ext h₀ s.heap -> s.heap.IsList l (strValues ys).toArray -> ys.length <= 2 * q -> (catL ys).length <= 3 * q ->
   (∀ h' tk tk',Ext h₀ h' -> R (.ok (.ret (.str (mkS (catL ys ++ subOut x.cps nxt item n q)) tk))) { s with heap:=h',toks:=tk' }) ->
   codeAny (model prog w) A (.builtin "re.Pattern.sub.loop" (loopArgs p l x t repl way k q false false)) R s:=by
 induction n with
 | zero => exact fun _ _ _ _ hn => absurd hn (Nat.not_lt_zero _)
 | succ n ih =>
  intro q k ys s hn hq hk hl hys hcat hR
  refine codeAny_builtin entry_loop ?_
  rw [Around.under_plainId plain_loop]
  refine wp_turn hx hp hl0 F hit hq hk hl (ys_big hys hq hx) (sub_fin hx hl0 hq hk hl hys hcat hR) fun st hd gr h' tk ys' ty hnx h2 h3 h1 k4 k3 k5 k6 => ⟨Code.quiet_builtin _ (by decide +kernel),?_⟩
  have hc:catL (ys' ++ [(item st hd gr,ty)]) = catL ys ++ ((x.cps.toList.drop q).take (st - q) ++ tl (item st hd gr)):=by
   rw [catL_snoc,k3,List.append_assoc]
  refine ih hd (k + 1) _ { s with heap:=h',toks:=tk } (sub_lt_succ hn (Nat.lt_of_le_of_lt h1 h2) h3) h3 k5 k6 (by rw [List.length_append]; exact ys_len k4 hys h1 h2) ?_ fun h'' tk tk' k7 => ?_
  ·rw [hc,List.length_append,List.length_append]
   exact cat_len hcat (by rw [List.length_take]; exact Nat.min_le_left _ _) (hsz st hd gr) h1 h2
  ·rw [hc,List.append_assoc,<- subOut_some hnx]
   exact hR h'' tk tk' k7
end
theorem nocall_str:typeLookup (.type "str") "__call__" = pure none:=by rw [typeLookup_type,builtinLookup_eq_fast]; kernel_rfl
theorem call_fun:typeLookup (.type "function") "__call__" = pure (some (.builtin "function.__call__")):=by rw [typeLookup_type,builtinLookup_eq_fast]; kernel_rfl
theorem sub_str_ba:isSubtype (.type "str") (.type "bytearray") = pure false:=by rw [isSubtype_type]; kernel_rfl
section
variable {prog:Program} {w:World} {A:Around} {s:Shared} {p:Addr} {code:Array Nat} {g:Nat} {x:Str} {t:Tok} {E:Value -> Shared -> Prop}
 {nxt:Nat -> Option (Nat × Nat × List (Nat × Nat))} {item:Nat -> Nat -> List (Nat × Nat) -> Str} {repl:Value} {way:Int}
theorem substitute_lit {M:Model} {r:Str} {tr:Tok} {wc:Bool} {id f:String} {Q:Fin -> Shared -> Prop} (hp:IsPat s.heap p code g) (hr:r.cps.contains 92 = false)
  (h:Q (.again (.builtin "re.Pattern.sub.loop" (loopArgs p s.heap.objs.size x t (.str r tr) 0 0 0 false wc))) { s with heap:=s.heap.push { cls:=.type "list",data:=.seq #[] } }) :
  wpAny M A (reSubstitute id f wc ⟨[.ref p,.str r tr,.str x t],[]⟩) Q E s:=by
 unfold reSubstitute
 dsimp only
 rw [named_sub]
 refine wpAny_bind (wpAny_pure ?_)
 dsimp only
 refine wpAny_bind (wpAny_pure ?_)
 refine wpAny_bind (wpAny_specialOf (T:="str") rfl nocall_str ?_)
 dsimp only [Option.isSome_none,Bool.false_eq_true,if_false]
 refine wpAny_bind (m:=asStr? (.str r tr)) (wpAny_pure ?_)
 refine wpAny_bind (wpAny_pure ?_)
 simp only [hr,Bool.not_false,if_true]
 refine wpAny_bind (wpAny_pure ?_)
 refine wpAny_bind (wpAny_holding (wp_whole hp ?_))
 show wpAny M A (newList [] >>= fun l => again _) _ _ _
 exact wpAny_bind (wpAny_newList (wpAny_pure h) (Nat.zero_le _))
theorem substitute_fn {M:Model} {fa:Addr} {of:Obj} {wc:Bool} {id f:String} {Q:Fin -> Shared -> Prop} (hp:IsPat s.heap p code g) (hf:s.heap.get? fa = some of) (hc:of.cls = .type "function")
  (h:Q (.again (.builtin "re.Pattern.sub.loop" (loopArgs p s.heap.objs.size x t (.ref fa) 1 0 0 false wc))) { s with heap:=s.heap.push { cls:=.type "list",data:=.seq #[] } }) :
  wpAny M A (reSubstitute id f wc ⟨[.ref p,.ref fa,.str x t],[]⟩) Q E s:=by
 unfold reSubstitute
 dsimp only
 rw [named_sub]
 refine wpAny_bind (wpAny_pure ?_)
 dsimp only
 refine wpAny_bind (wpAny_pure ?_)
 refine wpAny_bind (wpAny_specialOf (T:="function") ⟨_,hf,hc⟩ call_fun ?_)
 dsimp only [Option.isSome_some,if_true]
 refine wpAny_bind (wpAny_pure ?_)
 refine wpAny_bind (wpAny_pure ?_)
 refine wpAny_bind (wpAny_holding (wp_whole hp ?_))
 show wpAny M A (reNotHeld id (.str x t) >>= fun _ => newList [] >>= fun l => again _) _ _ _
 refine wpAny_bind ?_
 unfold reNotHeld
 refine wpAny_bind (wpAny_isInstance (T:="str") rfl sub_str_ba ?_)
 show wpAny M A (pure ()) _ _ _
 refine wpAny_pure ?_
 exact wpAny_bind (wpAny_newList (wpAny_pure h) (Nat.zero_le _))
theorem isList_new (h:Heap):(h.push { cls:=.type "list",data:=.seq #[] }).IsList h.objs.size (strValues []).toArray:=⟨_,Heap.get?_push_size _ rfl,rfl,0,rfl⟩
theorem call_sub_lit {r:Str} {tr:Tok} {Q:Value -> Shared -> Prop} (hx:x.cps.size <= 10000) (hp:IsPat s.heap p code g) (hr:r.cps.contains 92 = false) (hr2:(tl r).length <= 2) (F:Finds code x.cps g nxt)
  (h:∀ h' tk tk',Ext s.heap h' -> Q (.str (mkS (subOut x.cps nxt (fun _ _ _ => r) (x.cps.size + 1) 0)) tk) { s with heap:=h',toks:=tk' }) :
  wpAny (model prog w) A (call (.builtin "re.Pattern.sub") [.ref p,.str r tr,.str x t]) Q E s:=by
 refine wpAny_call (codeAny_call_builtin slot_sub.plain entry_sub (slot_sub.check _ _ _ _ _ _ _ _ hp.type (args_sub _ _ _) ?_))
 unfold Builtin.«re.Pattern.sub»
 refine substitute_lit hp hr ⟨Code.quiet_builtin _ (by decide +kernel),?_⟩
 refine sub_loop (h₀:=s.heap) (nxt:=nxt) (item:=fun _ _ _ => r) hx hp (Heap.get?_none_of_le (Nat.le_refl _)) F (.inl ⟨rfl,r,tr,rfl,fun _ _ _ => rfl⟩) (fun _ _ _ => hr2) (x.cps.size + 1) 0 0 [] _ (by (exact Nat.lt_succ_self _)) (Nat.zero_le _) (Ext.push _) (isList_new _) (Nat.zero_le _) (Nat.zero_le _) fun h' tk tk' k => ?_
 exact h h' tk tk' k
theorem call_sub_fn {fa:Addr} {of:Obj} {Q:Value -> Shared -> Prop} (hx:x.cps.size <= 10000) (hp:IsPat s.heap p code g) (hf:s.heap.get? fa = some of) (hc:of.cls = .type "function") (F:Finds code x.cps g nxt)
  (hit:∀ (s':Shared) (a:Addr) (q st hd:Nat) (gr:List (Nat × Nat)) (Q:Value -> Shared -> Prop) (E:Value -> Shared -> Prop),q <= x.cps.size -> nxt q = some (st,hd,gr) -> Ext s.heap s'.heap -> IsMatch s'.heap a x st hd gr ->
   (∀ tk h' tk',Ext s'.heap h' -> s'.heap.objs.size <= h'.objs.size -> Q (.str (item st hd gr) tk) { s' with heap:=h',toks:=tk' }) -> wpAny (model prog w) A.in1 (call (.ref fa) [.ref a]) Q E s')
  (hi:∀ st hd gr,(tl (item st hd gr)).length <= 2)
  (h:∀ h' tk tk',Ext s.heap h' -> Q (.str (mkS (subOut x.cps nxt item (x.cps.size + 1) 0)) tk) { s with heap:=h',toks:=tk' }) :
  wpAny (model prog w) A (call (.builtin "re.Pattern.sub") [.ref p,.ref fa,.str x t]) Q E s:=by
 refine wpAny_call (codeAny_call_builtin slot_sub.plain entry_sub (slot_sub.check _ _ _ _ _ _ _ _ hp.type (args_sub _ _ _) ?_))
 unfold Builtin.«re.Pattern.sub»
 refine substitute_fn hp hf hc ⟨Code.quiet_builtin _ (by decide +kernel),?_⟩
 refine sub_loop (h₀:=s.heap) (nxt:=nxt) (item:=item) hx hp (Heap.get?_none_of_le (Nat.le_refl _)) F (.inr ⟨rfl,hit⟩) hi (x.cps.size + 1) 0 0 [] _ (by (exact Nat.lt_succ_self _)) (Nat.zero_le _) (Ext.push _) (isList_new _) (Nat.zero_le _) (Nat.zero_le _) fun h' tk tk' k => ?_
 exact h h' tk tk' k
end
section
variable {prog:Program} {w:World} {A:Around} {s:Shared} {p:Addr} {code:Array Nat} {g:Nat} {x:Str} {t:Tok} {E:Value -> Shared -> Prop}
theorem call_subn_gen {tr:Tok} {Q:Value -> Shared -> Prop} {N k1 k2:Nat} {mks0:Array (Option Nat)} {lm0 li0:Int} (hx:x.cps.size <= 10000) (hp:IsPat s.heap p code 0) (hj:0 < N) (hjle:N <= x.cps.size)
  (hk1:k1 <= 1000000000000000000) (hk2:k2 <= 1000000000000000000) (R1:RxRes k1 (Sre.forSearch code x.cps 0 0 x.cps.size false) (some (0,N,mks0,lm0,li0))) (R2:RxRes k2 (Sre.forSearch code x.cps 0 N x.cps.size false) none)
  (h:∀ h' a tk tk' n tn,Ext s.heap h' -> s.heap.objs.size <= a -> a < h'.objs.size -> h'.get? a = some { cls:=.type "tuple",data:=.seq #[.str (mkS (x.cps.toList.drop (N))) tk,.int 1 tn],slots:=n } -> n = #[] -> Q (.ref a) { s with heap:=h',toks:=tk' }) :
  wpAny (model prog w) A (call (.builtin "re.Pattern.subn") [.ref p,.str ⟨#[]⟩ tr,.str x t]) Q E s:=by
 have hl0:s.heap.get? s.heap.objs.size = none:=Heap.get?_none_of_le (Nat.le_refl _)
 refine wpAny_call (codeAny_call_builtin slot_subn.plain entry_subn (slot_subn.check _ _ _ _ _ _ _ _ hp.type (args_subn _ _ _) ?_))
 unfold Builtin.«re.Pattern.subn»
 refine substitute_lit hp (by simp) ⟨Code.quiet_builtin _ (by decide +kernel),?_⟩
 refine codeAny_builtin entry_loop ?_
 rw [Around.under_plainId plain_loop,tree0]
 refine wp_turnY hx (hp.ext (Ext.push _)) hl0 (Ext.push _) (isList_new _) (Nat.zero_le _) hk1 R1 (Nat.le_refl _) fun m hF h1 tk1 ys1 k1 k2 k3 k4 => ?_
 refine sub_go (item:=fun _ _ _ => ⟨#[]⟩) (gr:=[]) (s:={ s with heap:=h1,toks:=tk1 }) hl0 hF hj (Nat.le_trans k4 (by decide)) k1 k2 fun h2 k5 k6 => ⟨Code.quiet_builtin _ (by decide +kernel),?_⟩
 refine codeAny_builtin entry_loop ?_
 rw [Around.under_plainId plain_loop,tree0]
 refine wp_turnN (s:={ s with heap:=h2,toks:=tk1 }) (hp.ext k5) hk2 R2 ?_
 have hys:(ys1 ++ [((⟨#[]⟩:Str),tr)]).length <= 100000:=by rw [List.length_append]; exact Nat.le_trans (Nat.succ_le_succ k4) (by decide)
 refine wp_gapK (s:={ s with heap:=h2,toks:=tk1 }) hx hl0 k5 k6 hys fun h3 tk3 ys3 k7 k8 k9 k10 => ?_
 have hc:catL ys3 = x.cps.toList.drop (N):=by
  have e1:catL ys1 = []:=by rw [k3]; simp [catL]
  have hd:(x.cps.toList.drop (N)).take (x.cps.size - N) = x.cps.toList.drop (N):=List.take_of_length_le (Nat.le_of_eq List.length_drop)
  rw [k9,catL_snoc,e1,hd]; rfl
 refine wp_endK (s:={ s with heap:=h3,toks:=tk3 }) k8 ?_ fun tk4 tk5 => ?_
 ·have e1:(x.cps.toList.drop (N)).length = x.cps.size - N:=List.length_drop
  rw [hc,e1]; exact Nat.le_trans (Nat.sub_le _ _) (Nat.le_trans hx (by decide))
 ·rw [hc]
  refine wpAny_bind (wpAny_holding (wpAny_bind (wpAny_mkInt ?_)))
  refine wpAny_newTuple ?_ (by show 2 <= sizeLine; decide)
  refine wpAny_pure ?_
  exact h _ _ _ _ _ _ (k7.trans (Ext.push _)) (by
    show s.heap.objs.size <= h3.objs.size
    refine xEA (k8) fun o ho _ => ?_
    exact Nat.le_of_lt (Heap.lt_size ho)) (by show h3.objs.size < (h3.push _).objs.size; rw [Heap.size_push]; lia) (Heap.get?_push_size _ rfl) rfl
theorem call_subn_junk {tr:Tok} {Q:Value -> Shared -> Prop} (hx:x.cps.size <= 10000) (hp:IsPat s.heap p cJunk 0) (hj:0 < junkN x.cps)
  (h:∀ h' a tk tk' n tn,Ext s.heap h' -> s.heap.objs.size <= a -> a < h'.objs.size -> h'.get? a = some { cls:=.type "tuple",data:=.seq #[.str (mkS (x.cps.toList.drop (junkN x.cps))) tk,.int 1 tn],slots:=n } -> n = #[] -> Q (.ref a) { s with heap:=h',toks:=tk' }) :
  wpAny (model prog w) A (call (.builtin "re.Pattern.subn") [.ref p,.str ⟨#[]⟩ tr,.str x t]) Q E s:=
 have hjle:junkN x.cps <= x.cps.size:=spanLen_le ..
 call_subn_gen hx hp hj hjle (by lia) (by lia) (junk_search hx) (junk_later hj hjle) h
end
theorem no_mem {α:Type} {P:α -> Prop}:∀ a ∈ ([]:List α),P a:=fun _ h => absurd h List.not_mem_nil
noncomputable def EX (X:List Addr) (h h':Heap):Prop:=∀ b o,b ∉ X -> h.get? b = some o -> h'.get? b = some o
theorem EX.refl {X:List Addr} (h:Heap):EX X h h:=fun _ _ _ e => e
theorem EX.trans {X:List Addr} {a b c:Heap} (x:EX X a b) (y:EX X b c):EX X a c:=fun q o hq e => y q o hq (x q o hq e)
theorem Ext.ex {X:List Addr} {h h':Heap} (x:Ext h h'):EX X h h':=fun b o _ e => x b o e
theorem drop_le {α:Type} {l:List α} {i k:Nat} (h:l.length <= k):(l.drop i).length <= k:=by rw [List.length_drop]; exact Nat.le_trans (Nat.sub_le _ _) h
theorem take_le {α:Type} {l:List α} {i k:Nat} (h:l.length <= k):(l.take i).length <= k:=by rw [List.length_take]; exact Nat.le_trans (Nat.min_le_right _ _) h
noncomputable def big:Nat:=1000000
noncomputable def SOk (x:Str):Prop:=PyData.strOk x = true /\ (tl x).length <= big
mutual
inductive Rd (H:Addr -> Prop) (h:Heap):Value -> PyData -> Prop
 | none:Rd H h .none .none
 | bool (b:Bool):Rd H h (.bool b) (.bool b)
 | int (i:Int) (t:Tok):Rd H h (.int i t) (.int i)
 | str (x:Str) (t:Tok):SOk x -> Rd H h (.str x t) (.str x)
 | list {a:Addr} {o:Obj} {vs:Array Value} {n:Nat} {xs:List PyData}:xs.length <= big -> ¬ H a -> h.get? a = some o -> o.cls = .type "list" -> o.data = .seq vs n -> Rds H h vs.toList xs -> Rd H h (.ref a) (.list xs)
 | tuple {a:Addr} {o:Obj} {vs:Array Value} {n:Nat} {xs:List PyData}:xs.length <= big -> ¬ H a -> h.get? a = some o -> o.cls = .type "tuple" -> o.data = .seq vs n -> Rds H h vs.toList xs -> Rd H h (.ref a) (.tuple xs)
inductive Rds (H:Addr -> Prop) (h:Heap):List Value -> List PyData -> Prop
 | nil:Rds H h [] []
 | cons {v:Value} {vs:List Value} {d:PyData} {ds:List PyData}:Rd H h v d -> Rds H h vs ds -> Rds H h (v :: vs) (d :: ds)
end
section
variable {H H':Addr -> Prop} {h h':Heap} (hH:∀ a o,h.get? a = some o -> ¬ H a -> ¬ H' a) (hk:∀ a o,¬ H a -> h.get? a = some o -> h'.get? a = some o)
include hH hk
theorem Rd.map {v:Value} {d:PyData} (r:Rd H h v d):Rd H' h' v d:=
 Rd.rec (motive_1:=fun v d _ => Rd H' h' v d) (motive_2:=fun v d _ => Rds H' h' v d) .none .bool .int .str (fun z n e c q _ r => .list z (hH _ _ e n) (hk _ _ n e) c q r) (fun z n e c q _ r => .tuple z (hH _ _ e n) (hk _ _ n e) c q r) .nil (fun _ _ x r => .cons x r) r
theorem Rds.map {v:List Value} {d:List PyData} (r:Rds H h v d):Rds H' h' v d:=by
 induction v generalizing d with
 | nil => cases r; exact .nil
 | cons v vs ih => cases r with | cons x r => exact .cons (x.map hH hk) (ih r)
end
section
variable {H H':Addr -> Prop} {h h':Heap} {v:Value} {d:PyData} {vs:List Value} {ds:List PyData} {X:List Addr}
theorem Rd.ex (r:Rd H h v d) (k:EX X h h') (hX:∀ a ∈ X,H a):Rd H h' v d:=r.map (fun _ _ _ n => n) fun a o n e => k a o (fun m => n (hX a m)) e
theorem Rds.ex (r:Rds H h vs ds) (k:EX X h h') (hX:∀ a ∈ X,H a):Rds H h' vs ds:=r.map (fun _ _ _ n => n) fun a o n e => k a o (fun m => n (hX a m)) e
theorem Rd.less (r:Rd H h v d) (k:∀ a,H' a -> H a):Rd H' h v d:=r.map (fun a _ _ n m => n (k a m)) fun _ _ _ e => e
theorem Rds.less (r:Rds H h vs ds) (k:∀ a,H' a -> H a):Rds H' h vs ds:=r.map (fun a _ _ n m => n (k a m)) fun _ _ _ e => e
theorem Rd.more (r:Rd H h v d) (k:∀ a,H' a -> H a \/ h.get? a = Option.none):Rd H' h v d:=r.map (fun a o e n m => by
 rcases k a m with q | q
 ·exact n q
 ·rw [e] at q; cases q) fun _ _ _ e => e
theorem Rds.more (r:Rds H h vs ds) (k:∀ a,H' a -> H a \/ h.get? a = Option.none):Rds H' h vs ds:=r.map (fun a o e n m => by
 rcases k a m with q | q
 ·exact n q
 ·rw [e] at q; cases q) fun _ _ _ e => e
theorem Rds.length (r:Rds H h vs ds):vs.length = ds.length:=by
 induction vs generalizing ds with
 | nil => cases r; rfl
 | cons v vs ih => cases r with | cons x r => rw [List.length_cons,List.length_cons,ih r]
theorem Rds.append {ws:List Value} {es:List PyData} (r:Rds H h vs ds) (q:Rds H h ws es):Rds H h (vs ++ ws) (ds ++ es):=by
 induction vs generalizing ds with
 | nil => cases r; exact q
 | cons v vs ih => cases r with | cons x r => exact .cons x (ih r)
theorem Rds.get {i:Nat} (r:Rds H h vs ds) (k:ds[i]? = some d):∃ v,vs[i]? = some v /\ Rd H h v d:=by
 induction vs generalizing ds i with
 | nil => cases r; simp at k
 | cons v vs ih =>
  cases r with
  | cons x r =>
   cases i with
   | zero => simp at k; subst k; exact ⟨v,rfl,x⟩
   | succ i => simp at k; exact ih r k
theorem Rds.get' {i:Nat} (r:Rds H h vs ds) (k:vs[i]? = some v):∃ d,ds[i]? = some d /\ Rd H h v d:=by
 induction vs generalizing ds i with
 | nil => simp at k
 | cons w vs ih =>
  cases r with
  | cons x r =>
   cases i with
   | zero => simp at k; subst k; exact ⟨_,rfl,x⟩
   | succ i => simp at k; simpa using ih r k
theorem Rds.take (r:Rds H h vs ds) (n:Nat):Rds H h (vs.take n) (ds.take n):=by
 induction vs generalizing ds n with
 | nil => cases r; simp; exact .nil
 | cons v vs ih => cases r with | cons x r => cases n with
  | zero => simp; exact .nil
  | succ n => simp; exact .cons x (ih r n)
theorem Rds.drop (r:Rds H h vs ds) (n:Nat):Rds H h (vs.drop n) (ds.drop n):=by
 induction vs generalizing ds n with
 | nil => cases r; simp; exact .nil
 | cons v vs ih => cases r with | cons x r => cases n with
  | zero => simp; exact .cons x r
  | succ n => simp; exact ih r n
end
theorem Rd.reads {H:Addr -> Prop} {h:Heap} {v:Value} {d:PyData} (r:Rd H h v d):d.canLay0 = true /\ ∃ as,Reads h v d as:=
 Rd.rec (motive_1:=fun v d _ => d.canLay0 = true /\ ∃ as,Reads h v d as) (motive_2:=fun v d _ => PyData.canLayAll0 d = true /\ ∃ as,ReadsAll h v d as) ⟨rfl,_,.none⟩ (fun b => ⟨rfl,_,.bool b⟩) (fun i t => ⟨rfl,_,.int i t⟩) (fun x t k => ⟨k.1,_,.str x t⟩)
  (fun _ _ e c q _ r => ⟨r.1,r.2.elim fun _ z => ⟨_,.list e c q z⟩⟩) (fun _ _ e c q _ r => ⟨r.1,r.2.elim fun _ z => ⟨_,.tuple e c q z⟩⟩) ⟨rfl,_,.nil⟩ (fun _ _ x r => ⟨Bool.and_eq_true_iff.mpr ⟨x.1,r.1⟩,x.2.elim fun _ z => r.2.elim fun _ z' => ⟨_,.cons z z'⟩⟩) r
theorem Rd.str_inv {H:Addr -> Prop} {h:Heap} {v:Value} {x:Str} (r:Rd H h v (.str x)):∃ t,v = .str x t /\ SOk x:=by cases r with | str _ t k => exact ⟨t,rfl,k⟩
theorem Rd.int_inv {H:Addr -> Prop} {h:Heap} {v:Value} {i:Int} (r:Rd H h v (.int i)):∃ t,v = .int i t:=by cases r with | int _ t => exact ⟨t,rfl⟩
theorem Rd.bool_inv {H:Addr -> Prop} {h:Heap} {v:Value} {b:Bool} (r:Rd H h v (.bool b)):v = .bool b:=by cases r; rfl
theorem Rd.none_inv {H:Addr -> Prop} {h:Heap} {v:Value} (r:Rd H h v .none):v = .none:=by cases r; rfl
theorem Rd.list_inv {H:Addr -> Prop} {h:Heap} {v:Value} {xs:List PyData} (r:Rd H h v (.list xs)):∃ a vs,v = .ref a /\ xs.length <= big /\ h.IsList a vs /\ Rds H h vs.toList xs:=by
 cases r with | list z n e c q r => exact ⟨_,_,rfl,z,⟨_,e,c,_,q⟩,r⟩
theorem Rd.tuple_inv {H:Addr -> Prop} {h:Heap} {v:Value} {xs:List PyData} (r:Rd H h v (.tuple xs)):∃ a vs,v = .ref a /\ xs.length <= big /\ h.IsTuple a vs /\ Rds H h vs.toList xs:=by
 cases r with | tuple z n e c q r => exact ⟨_,_,rfl,z,⟨_,e,c,_,q⟩,r⟩
theorem Rd.ofList {H:Addr -> Prop} {h:Heap} {a:Addr} {vs:Array Value} {xs:List PyData} (z:xs.length <= big) (n:¬ H a) (l:h.IsList a vs) (r:Rds H h vs.toList xs):Rd H h (.ref a) (.list xs):=by
 obtain ⟨o,e,c,_,q⟩:=l; exact .list z n e c q r
theorem strOk_iff {x:Str}:PyData.strOk x = true ↔ ∀ c ∈ tl x,c < 0x110000:=by
 unfold PyData.strOk
 rw [Array.all_eq_true']
 constructor
 ·intro h c hc; simpa using h c (Array.mem_toList_iff.mp hc)
 ·intro h c hc; simpa using h c (Array.mem_toList_iff.mpr hc)
theorem strOk_mkS {l:List Nat}:PyData.strOk (mkS l) = true ↔ ∀ c ∈ l,c < 0x110000:=strOk_iff
theorem SOk.mk {l:List Nat} (h:∀ c ∈ l,c < 0x110000) (z:l.length <= big):SOk (mkS l):=⟨strOk_mkS.mpr h,z⟩
theorem SOk.all {x:Str} (h:SOk x):∀ c ∈ tl x,c < 0x110000:=strOk_iff.mp h.1
theorem tl_mkS (l:List Nat):tl (mkS l) = l:=rfl
inductive Pat | tok | quo | val | esc | junk | jtok | jesc | dot | eol
 deriving DecidableEq
noncomputable def Pat.name:Pat -> Str
 | .tok => "HEADER_TOKEN_RE" | .quo => "HEADER_QUOTED_VALUE_RE" | .val => "HEADER_VALUE_RE" | .esc => "HEADER_ESCAPE_RE" | .junk => "_twin_re_7"
 | .jtok => "HEADER_JOIN_TOKEN_RE" | .jesc => "HEADER_JOIN_ESCAPE_RE" | .dot => "_twin_re_1" | .eol => "_twin_re_2"
noncomputable def Pat.code:Pat -> Array Nat
 | .tok => cTok | .quo => cQuo | .val => cVal | .esc => cEsc | .junk => cJunk | .jtok => cJTok | .jesc => cJEsc | .dot => cDot | .eol => cEol
noncomputable def Pat.groups:Pat -> Nat
 | .tok => 1 | .quo => 1 | .val => 1 | .esc => 1 | .junk => 0 | .jtok => 0 | .jesc => 1 | .dot => 0 | .eol => 0
inductive E
 | nil | cons (a b:E)
 | var (i:Nat) | none | bool (b:Bool) | int (i:Int) | str (s:Str) | gstr (n s:Str) | neg (a:E)
 | bin (op:Operator) (a b:E) | cmp (op:CmpOp) (a b:E)
 | band (es:E) | bor (es:E) | not_ (a:E) | ite (c a b:E)
 | tup (es:E) | lst (es:E)
 | comp (k:Nat) (it c e:E) | rng (a:E)
 | idx (a b:E) | slc (a lo hi:E)
 | call (f:Str) (es:E) | len (a:E) | chr_ (a:E)
 | meth (m:Str) (a es:E)
 | fmt1 (a:E) | fmt2 (a b:E)
 | full (p:Pat) (a:E) | subS (p:Pat) (r:E) (a:E) | subL (p:Pat) (a:E) | subn (p:Pat) (a:E)
 | grp (i:Nat) | span (i:Nat) | mstr (i:Nat) | hasm (i:Nat) | callm (f:Str) (i:Nat)
inductive RV
 | un | d (x:PyData) | mt (x:Str) (st hd:Nat) (gr:List (Nat × Nat))
noncomputable abbrev sx (l:List Nat):PyData:=.str (mkS l)
noncomputable def truth:PyData -> Bool
 | .none => false | .bool b => b | .int i => i != 0 | .str x => !(tl x).isEmpty | .list xs => !xs.isEmpty | .tuple xs => !xs.isEmpty | .dict kvs => !kvs.isEmpty
noncomputable def eqX (a b:PyData):Option Bool:=if min a.depth b.depth <= 64 then some (PyData.eqv a b) else none
noncomputable def eqS (x:Str):PyData -> Option Bool
 | .str y => some (tl x == tl y)
 | b => eqX (.str x) b
noncomputable def eqI (i:Int):PyData -> Option Bool
 | .int j => some (i == j)
 | b => eqX (.int i) b
noncomputable def eqD:PyData -> PyData -> Option Bool
 | .str x,b => eqS x b
 | .int i,b => eqI i b
 | a,b => eqX a b
noncomputable def anyEq (a:PyData):List PyData -> Option Bool
 | [] => some false
 | x :: xs => (eqD x a).bind fun b => (anyEq a xs).map fun c => b || c
noncomputable def nIx (i:Int) (n:Nat):Option Nat:=if 0 <= i then (if i < n then some i.toNat else none) else if 0 <= i + n then some (i + n).toNat else none
noncomputable def nSl (i:Int) (n:Nat):Nat:=if i < 0 then (i + n).toNat else min i.toNat n
noncomputable def hiOf (hi:Option Int) (n:Nat):Nat:=match hi with | some i => nSl i n | none => n
noncomputable def loOf (lo:Option Int) (n:Nat):Nat:=match lo with | some i => nSl i n | none => 0
noncomputable def cut {α:Type} (l:List α) (lo hi:Option Int):List α:=(l.take (hiOf hi l.length)).drop (loOf lo l.length)
section
variable {α:Type}
noncomputable def iP (f:Int -> Option α):PyData -> Option α
 | .int i => f i
 | _ => none
noncomputable def sP (f:Str -> Option α):PyData -> Option α
 | .str i => f i
 | _ => none
noncomputable def lP (f:List PyData -> Option α):PyData -> Option α
 | .list i => f i
 | _ => none
noncomputable def sil (fs:Str -> Option α) (fi:Int -> Option α) (fl:List PyData -> Option α):PyData -> Option α
 | .str x => fs x
 | .int i => fi i
 | .list l => fl l
 | _ => none
variable {z:α} {y:PyData}
theorem iP_inv {f:Int -> Option α} (h:iP f y = some z):∃ i,y = .int i /\ f i = some z:=by
 cases y <;> first | exact ⟨_,rfl,h⟩ | (cases h; done)
theorem sP_inv {f:Str -> Option α} (h:sP f y = some z):∃ i,y = .str i /\ f i = some z:=by
 cases y <;> first | exact ⟨_,rfl,h⟩ | (cases h; done)
theorem lP_inv {f:List PyData -> Option α} (h:lP f y = some z):∃ i,y = .list i /\ f i = some z:=by
 cases y <;> first | exact ⟨_,rfl,h⟩ | (cases h; done)
theorem sil_inv {fs:Str -> Option α} {fi:Int -> Option α} {fl:List PyData -> Option α} (h:sil fs fi fl y = some z):(∃ i,y = .str i /\ fs i = some z) \/ (∃ i,y = .int i /\ fi i = some z) \/ (∃ i,y = .list i /\ fl i = some z):=by
 cases y <;> first | exact .inl ⟨_,rfl,h⟩ | exact .inr (.inl ⟨_,rfl,h⟩) | exact .inr (.inr ⟨_,rfl,h⟩) | (cases h; done)
noncomputable def isNoneD:PyData -> Bool
 | .none => true
 | _ => false
theorem isNoneD_inv (h:isNoneD y = true):y = .none:=by
 cases y <;> first | rfl | exact (Bool.false_ne_true h).elim
noncomputable def oneL {β:Type} (f:β -> Option α):List β -> Option α
 | [] => none
 | c :: r => if r.isEmpty then f c else none
theorem oneL_inv {β:Type} {f:β -> Option α} {l:List β} (h:oneL f l = some z):∃ c,l = [c] /\ f c = some z:=by
 cases l with
 | nil => cases h
 | cons c r => cases r with
  | nil => exact ⟨c,rfl,h⟩
  | cons _ _ => cases h
noncomputable def nilL {β:Type} (o:Option α):List β -> Option α
 | [] => o
 | _ => none
theorem nilL_inv {β:Type} {o:Option α} {l:List β} (h:nilL o l = some z):l = [] /\ o = some z:=by
 cases l with
 | nil => exact ⟨rfl,h⟩
 | cons c r => cases h
noncomputable def tP (f:List PyData -> Option α):PyData -> Option α
 | .tuple i => f i
 | _ => none
theorem tP_inv {f:List PyData -> Option α} (h:tP f y = some z):∃ i,y = .tuple i /\ f i = some z:=by
 cases y <;> first | exact ⟨_,rfl,h⟩ | (cases h; done)
noncomputable def stl (fs:Str -> Option α) (fl ft:List PyData -> Option α):PyData -> Option α
 | .str x => fs x
 | .list l => fl l
 | .tuple l => ft l
 | _ => none
theorem stl_el {P:Prop} {fs:Str -> Option α} {fl ft:List PyData -> Option α} (h:stl fs fl ft y = some z) (k1:∀ x,y = .str x -> fs x = some z -> P) (k2:∀ l,y = .list l -> fl l = some z -> P) (k3:∀ l,y = .tuple l -> ft l = some z -> P):P:=by
 cases y <;> first | exact k1 _ rfl h | exact k2 _ rfl h | exact k3 _ rfl h | (cases h; done)
noncomputable def dR (f:PyData -> Option α):RV -> Option α
 | .d x => f x
 | _ => none
noncomputable def mR (f:Str -> Nat -> Nat -> List (Nat × Nat) -> Option α):RV -> Option α
 | .mt x st hd gr => f x st hd gr
 | _ => none
theorem dR_inv {f:PyData -> Option α} {r:RV} (h:dR f r = some z):∃ x,r = .d x /\ f x = some z:=by
 cases r <;> first | exact ⟨_,rfl,h⟩ | (cases h; done)
theorem mR_inv {f:Str -> Nat -> Nat -> List (Nat × Nat) -> Option α} {r:RV} (h:mR f r = some z):∃ x st hd gr,r = .mt x st hd gr /\ f x st hd gr = some z:=by
 cases r <;> first | exact ⟨_,_,_,_,rfl,h⟩ | (cases h; done)
end
noncomputable def binD (op:Operator) (x y:PyData):Option PyData:=match op with
 | .Add => sil (fun s => sP (fun t => if (tl s).length + (tl t).length <= big then some (sx (tl s ++ tl t)) else none) y) (fun i => iP (fun j => some (.int (i + j))) y) (fun l => lP (fun m => if l.length + m.length <= big then some (.list (l ++ m)) else none) y) x
 | .Mult => sil (fun s => iP (fun j => if (tl s).length <= 1000 /\ j <= 1000 /\ -1000 <= j then some (sx (List.replicate j.toNat (tl s)).flatten) else none) y) (fun i => iP (fun j => if i.natAbs < 2 ^ 200 /\ j.natAbs < 2 ^ 64 then some (.int (i * j)) else none) y) (fun _ => none) x
 | .FloorDiv => iP (fun i => iP (fun j => if 0 < j /\ j < 1073741824 then some (.int (i.fdiv j)) else none) y) x
 | .Mod => iP (fun i => iP (fun j => if 0 < j then some (.int (i.fmod j)) else none) y) x
 | _ => none
noncomputable def inD (x y:PyData):Option Bool:=sil (fun t => sP (fun s => oneL (fun c => some ((tl t).contains c)) (tl s)) x) (fun _ => none) (fun ys => anyEq x ys) y
noncomputable def cmpD (op:CmpOp) (x y:PyData):Option Bool:=match op with
 | .Eq => eqD x y
 | .NotEq => (eqD x y).map (!·)
 | .Gt => iP (fun i => iP (fun j => some (decide (j < i))) y) x
 | .In => inD x y
 | .Is => if isNoneD y then some (isNoneD x) else none
 | .IsNot => if isNoneD y then some (!isNoneD x) else none
 | _ => none
noncomputable def strsOf:List PyData -> Option (List (List Nat))
 | [] => some []
 | x :: r => sP (fun t => (strsOf r).map (tl t :: ·)) x
noncomputable def joinL (sep:List Nat):List (List Nat) -> List Nat
 | [] => []
 | [x] => x
 | x :: r => x ++ sep ++ joinL sep r
noncomputable def methD (m:Str) (a:PyData) (es:List PyData):Option PyData:=
 sP (fun s => if m = ("join":Str) then oneL (lP fun ys => (strsOf ys).bind fun ps => if (joinL (tl s) ps).length <= big then some (sx (joinL (tl s) ps)) else none) es
  else if m = ("rstrip":Str) then nilL (some (sx ((tl s).reverse.dropWhile isSp).reverse)) es
  else if m = ("lstrip":Str) then nilL (some (sx ((tl s).dropWhile isSp))) es
  else if m = ("startswith":Str) then oneL (sP fun p => some (.bool ((tl p).isPrefixOf (tl s)))) es
  else if m = ("split":Str) then nilL (if (tl s).length <= 10000 then some (.list ((Txt.words s).map .str)) else none) es
  else none) a
noncomputable def semiD (x:Str):Str:=Txt.replace x (mkS [59]) (mkS [32])
noncomputable def rspD:PyData -> Option PyData:=sP fun x => if (tl x).length <= 10000 /\ PyData.strOk (semiD x) = true /\ (tl (semiD x)).length <= 10000 then some (.list ((Txt.split (semiD x) (mkS [44])).map .str)) else none
noncomputable def srchD (p:Pat) (T:Array Nat):Option (Nat × Nat × List (Nat × Nat)):=match p with
 | .tok => if tokN T = 0 then none else some (0,tokB T + tokN T,[(tokB T,tokB T + tokN T)])
 | .quo => match quoC T with | some e => some (0,e + 1,[(quoB T,e)]) | none => none
 | .val => if hasEq T then some (0,valB T + valN T,[(valB T,valB T + valN T)]) else none
 | _ => none
noncomputable def eolL:List Nat -> List Nat
 | [] => []
 | 13 :: 10 :: r => 13 :: 10 :: eolL r
 | c :: r => if c = 10 \/ c = 13 then 13 :: 10 :: eolL r else c :: eolL r
noncomputable def dotL:Bool -> List Nat -> List Nat
 | _,[] => []
 | f,c :: r => if c = 46 /\ f = true then 46 :: 46 :: dotL false r else c :: dotL (c == 10) r
noncomputable def jescL:List Nat -> List Nat
 | [] => []
 | c :: r => if c = 34 \/ c = 92 then 92 :: c :: jescL r else c :: jescL r
noncomputable def escL:List Nat -> List Nat
 | [] => []
 | [c] => [c]
 | c :: e :: r => if c = 92 /\ e ≠ 10 then e :: escL r else c :: escL (e :: r)
noncomputable def subD (p:Pat) (r:List Nat) (l:List Nat):Option (List Nat):=match p with
 | .eol => if r = [13,10] then some (eolL l) else none
 | .dot => if r = [46,46] then some (dotL true l) else none
 | _ => none
noncomputable def subLD (p:Pat) (l:List Nat):Option (List Nat):=match p with
 | .esc => some (escL l)
 | .jesc => some (jescL l)
 | _ => none
noncomputable def subnD (p:Pat) (l:List Nat):Option PyData:=match p with
 | .junk => if 0 < (l.takeWhile isJunk).length then some (.tuple [sx (l.dropWhile isJunk),.int 1]) else none
 | _ => none
noncomputable def fmt1L (v:List Nat):List Nat:=34 :: v ++ [34]
noncomputable def fmt2L (k v:List Nat):List Nat:=k ++ 61 :: v
noncomputable def getRV (ρ:List RV) (i:Nat):RV:=(ρ[i]?).getD .un
noncomputable def bindT (k:Nat) (x:PyData):Option (List RV):=if k = 1 then some [.d x] else tP (fun xs => if xs.length = k then some (xs.map .d) else none) x
noncomputable def lenD:PyData -> Option PyData:=stl (fun x => some (.int (tl x).length)) (fun xs => some (.int xs.length)) (fun xs => some (.int xs.length))
noncomputable def chrD:PyData -> Option PyData:=iP fun i => if 0 <= i /\ i < 0x110000 then some (sx [i.toNat]) else none
noncomputable def idxD (x y:PyData):Option PyData:=iP (fun i => stl (fun x => ((nIx i (tl x).length).bind fun k => (tl x)[k]?).map fun c => sx [c]) (fun xs => (nIx i xs.length).bind fun k => xs[k]?) (fun xs => (nIx i xs.length).bind fun k => xs[k]?) x) y
noncomputable def slcD (x:PyData) (lo hi:Option Int):Option PyData:=stl (fun x => some (sx (cut (tl x) lo hi))) (fun xs => some (.list (cut xs lo hi))) (fun _ => none) x
noncomputable def itemsD:PyData -> Option (List PyData):=stl (fun x => some ((tl x).map fun c => sx [c])) some some
noncomputable def rngD (a b:Int):Option (List PyData):=if -1000 <= a /\ a <= 1000 /\ -1000 <= b /\ b <= 100000 then some ((List.range (b - a).toNat).map fun k => .int (a + (k:Nat))) else none
noncomputable def optI:PyData -> Option (Option Int)
 | .int i => some (some i)
 | .none => some none
 | _ => none
theorem optI_el {P:Prop} {x:PyData} {o:Option Int} (h:optI x = some o) (k1:∀ i,x = .int i -> o = some i -> P) (k2:x = .none -> o = none -> P):P:=by
 cases x <;> first | exact k1 _ rfl (Option.some.inj h).symm | exact k2 rfl (Option.some.inj h).symm | (cases h; done)
noncomputable def consO (o:Option PyData) (ys:List PyData):List PyData:=match o with | none => ys | some y => y :: ys
noncomputable def compD (f:PyData -> Option (Option PyData)):List PyData -> Option (List PyData)
 | [] => some []
 | x :: r => (f x).bind fun o => (compD f r).map (consO o)
noncomputable def rngP (x y:PyData):Option PyData:=iP (fun m => iP (fun n => (rngD m n).map .list) y) x
noncomputable def fmt1D:PyData -> Option PyData:=sP fun v => if (tl v).length + 2 <= big then some (sx (fmt1L (tl v))) else none
noncomputable def fmt2D (x y:PyData):Option PyData:=sP (fun k => sP (fun v => if (tl k).length + (tl v).length + 1 <= big then some (sx (fmt2L (tl k) (tl v))) else none) y) x
noncomputable def subSD (p:Pat) (y x:PyData):Option PyData:=sP (fun y => sP (fun x => if (tl x).length <= 10000 then (subD p (tl y) (tl x)).map sx else none) x) y
noncomputable def subLP (p:Pat):PyData -> Option PyData:=sP fun x => if (tl x).length <= 10000 then (subLD p (tl x)).map sx else none
noncomputable def subnP (p:Pat):PyData -> Option PyData:=sP fun x => if (tl x).length <= 10000 then subnD p (tl x) else none
noncomputable def fullP (p:Pat):PyData -> Option PyData:=sP fun x => if (tl x).length <= 10000 /\ p = .jtok then some (.bool (!(tl x).isEmpty && (tl x).all isJt)) else none
noncomputable def valRV:RV -> Option PyData:=dR some
noncomputable def grpRV:RV -> Option PyData:=mR fun x _ _ gr => oneL (fun q => some (sx (((tl x).drop q.1).take (q.2 - q.1)))) gr
noncomputable def spanRV:RV -> Option PyData:=mR fun _ st hd _ => some (.tuple [.int st,.int hd])
noncomputable def mstrRV:RV -> Option PyData:=mR fun x _ _ _ => some (sx (tl x))
noncomputable def hasmRV:RV -> Option PyData
 | .mt .. => some (.bool true)
 | .d x => if isNoneD x then some (.bool false) else none
 | .un => none
noncomputable def isMt:RV -> Bool
 | .mt .. => true
 | _ => false
noncomputable def negD:PyData -> Option PyData:=iP fun i => some (.int (-i))
mutual
noncomputable def evE (F:Str -> List RV -> Option PyData):E -> List RV -> Option PyData
 | .var i,ρ => valRV (getRV ρ i)
 | .none,_ => some .none
 | .bool b,_ => some (.bool b)
 | .int i,_ => some (.int i)
 | .str s,_ => some (sx (tl s))
 | .gstr _ s,_ => some (sx (tl s))
 | .neg a,ρ => (evE F a ρ).bind negD
 | .bin op a b,ρ => (evE F a ρ).bind fun x => (evE F b ρ).bind fun y => binD op x y
 | .cmp op a b,ρ => (evE F a ρ).bind fun x => (evE F b ρ).bind fun y => (cmpD op x y).map .bool
 | .band es,ρ => evB F true es ρ .none
 | .bor es,ρ => evB F false es ρ .none
 | .not_ a,ρ => (evE F a ρ).bind fun x => some (.bool (!truth x))
 | .ite c a b,ρ => (evE F c ρ).bind fun x => if truth x then evE F a ρ else evE F b ρ
 | .tup es,ρ => (evL F es ρ).map .tuple
 | .lst es,ρ => (evL F es ρ).map .list
 | .comp k it c e,ρ => ((evE F it ρ).bind itemsD).bind fun items => (compD (fun x => (bindT k x).bind fun tg => (evE F c (tg ++ ρ)).bind fun t =>
   if truth t then (evE F e (tg ++ ρ)).map some else some none) items).map .list
 | .rng a,ρ => (evE F a ρ).bind fun x => rngP (.int 0) x
 | .idx a b,ρ => (evE F a ρ).bind fun x => (evE F b ρ).bind fun y => idxD x y
 | .slc a lo hi,ρ => (evE F a ρ).bind fun x => ((evE F lo ρ).bind optI).bind fun l => ((evE F hi ρ).bind optI).bind fun h => slcD x l h
 | .call f es,ρ => (evL F es ρ).bind fun vs => F f (vs.map .d)
 | .callm f i,ρ => if isMt (getRV ρ i) then F f [getRV ρ i] else none
 | .len a,ρ => (evE F a ρ).bind lenD
 | .chr_ a,ρ => (evE F a ρ).bind chrD
 | .meth m a es,ρ => (evE F a ρ).bind fun x => (evL F es ρ).bind fun ys => methD m x ys
 | .fmt1 a,ρ => (evE F a ρ).bind fmt1D
 | .fmt2 a b,ρ => (evE F a ρ).bind fun x => (evE F b ρ).bind fun y => fmt2D x y
 | .subS p r a,ρ => (evE F r ρ).bind fun y => (evE F a ρ).bind fun x => subSD p y x
 | .subL p a,ρ => (evE F a ρ).bind (subLP p)
 | .subn p a,ρ => (evE F a ρ).bind (subnP p)
 | .full p a,ρ => (evE F a ρ).bind (fullP p)
 | .grp i,ρ => grpRV (getRV ρ i)
 | .span i,ρ => spanRV (getRV ρ i)
 | .mstr i,ρ => mstrRV (getRV ρ i)
 | .hasm i,ρ => hasmRV (getRV ρ i)
 | .nil,_ => none
 | .cons _ _,_ => none
noncomputable def evL (F:Str -> List RV -> Option PyData):E -> List RV -> Option (List PyData)
 | .nil,_ => some []
 | .cons a b,ρ => (evE F a ρ).bind fun x => (evL F b ρ).map (x :: ·)
 | _,_ => none
noncomputable def evB (F:Str -> List RV -> Option PyData) (isAnd:Bool):E -> List RV -> PyData -> Option PyData
 | .nil,_,x => some x
 | .cons a b,ρ,_ => (evE F a ρ).bind fun x => if truth x = isAnd then evB F isAnd b ρ x else some x
 | _,_,_ => none
end
structure GC where
 consts:List (Str × Str)
 fns:List Str
noncomputable def lk (sc:Scope) (x:Str):Option NameKind:=sc.names.lookup x
noncomputable def isDbg (x:Str):Bool:=x == ("__debug__":Str)
noncomputable def nameOk (Γ:List (Str × NameKind)) (sc:Scope) (i:Nat) (x:Str):Bool:=(Γ[i]? == (lk sc x).map fun k => (x,k)) && (lk sc x == some .local || lk sc x == some .cell) && !isDbg x
noncomputable def gname (sc:Scope) (x:Str):Bool:=(lk sc x == some .globalImplicit) && !isDbg x
noncomputable def relabelS (scope sc:Scope):Scope:=
 {scope with names:=scope.names.map fun (n,k) => if (k == .free && sc.kind == .function && lk sc n == some .cell) then (n,.cell) else (n,k) }
noncomputable def kinds (k:NameKind) (ns:List Str):List (Str × NameKind):=ns.map fun n => (n,k)
noncomputable def lookups (sc:Scope) (ns:List Str) (k:NameKind):Bool:=ns.all fun n => lk sc n == some k && !isDbg n
noncomputable def scopeOk (scope sc:Scope):Bool:=
 decide (scope.kind = .function) && (scope.names.all fun x => x.2 != .cell && (x.2 != .local || scope.names.lookup x.1 == some .local) && (x.2 != .free || (lk sc x.1 == some .cell && scope.names.lookup x.1 == some .free)))
noncomputable def methNames:List Str:=["join","rstrip","lstrip","startswith","split"]
noncomputable def lamPre:Pat -> Str
 | .jesc => "\\"
 | _ => ""
section
variable {a b c d e f g h:Bool} {P:Prop}
theorem ba2 (q:(a && b) = true) (k:a = true -> b = true -> P):P:=k (Bool.and_eq_true_iff.mp q).1 (Bool.and_eq_true_iff.mp q).2
theorem ba3 (q:(a && b && c) = true) (k:a = true -> b = true -> c = true -> P):P:=ba2 q fun q => ba2 q k
theorem ba4 (q:(a && b && c && d) = true) (k:a = true -> b = true -> c = true -> d = true -> P):P:=ba2 q fun q => ba3 q k
theorem ba5 (q:(a && b && c && d && e) = true) (k:a = true -> b = true -> c = true -> d = true -> e = true -> P):P:=ba2 q fun q => ba4 q k
theorem ba6 (q:(a && b && c && d && e && f) = true) (k:a = true -> b = true -> c = true -> d = true -> e = true -> f = true -> P):P:=ba2 q fun q => ba5 q k
theorem ba7 (q:(a && b && c && d && e && f && g) = true) (k:a = true -> b = true -> c = true -> d = true -> e = true -> f = true -> g = true -> P):P:=ba2 q fun q => ba6 q k
theorem ba8 (q:(a && b && c && d && e && f && g && h) = true) (k:a = true -> b = true -> c = true -> d = true -> e = true -> f = true -> g = true -> h = true -> P):P:=ba2 q fun q => ba7 q k
theorem obind {α β:Type} {o:Option α} {f:α -> Option β} {z:β} (h:o.bind f = some z) (k:∀ y,o = some y -> f y = some z -> P):P:=by
 cases o with
 | none => cases h
 | some y => exact k y rfl h
end
section
variable {x:Expr} {motive:Expr -> Prop}
noncomputable def vNm (f:Str -> Bool) (x:Expr):Bool:=if h:x.ctorIdx = 23 then Expr.Name.elim (motive_1:=fun _ => Bool) x h fun n _ => f n else false
theorem vNm_elim {f:Str -> Bool} (h:vNm f x = true) (k:∀ n p,f n = true -> motive (.Name n p)):motive x:=
 if c:x.ctorIdx = 23 then Expr.Name.elim (motive_1:=fun x => vNm f x = true -> motive x) x c k h else absurd ((dif_neg c).symm.trans h) Bool.false_ne_true
noncomputable def vCon (f:Const -> Bool) (x:Expr):Bool:=if h:x.ctorIdx = 19 then Expr.Constant.elim (motive_1:=fun _ => Bool) x h fun c _ _ => f c else false
theorem vCon_elim {f:Const -> Bool} (h:vCon f x = true) (k:∀ c k p,f c = true -> motive (.Constant c k p)):motive x:=
 if c:x.ctorIdx = 19 then Expr.Constant.elim (motive_1:=fun x => vCon f x = true -> motive x) x c k h else absurd ((dif_neg c).symm.trans h) Bool.false_ne_true
noncomputable def vUn (f:UnaryOp -> Expr -> Bool) (x:Expr):Bool:=if h:x.ctorIdx = 3 then Expr.UnaryOp.elim (motive_1:=fun _ => Bool) x h fun o y _ => f o y else false
theorem vUn_elim {f:UnaryOp -> Expr -> Bool} (h:vUn f x = true) (k:∀ o y p,f o y = true -> motive (.UnaryOp o y p)):motive x:=
 if c:x.ctorIdx = 3 then Expr.UnaryOp.elim (motive_1:=fun x => vUn f x = true -> motive x) x c k h else absurd ((dif_neg c).symm.trans h) Bool.false_ne_true
noncomputable def vBin (f:Expr -> Operator -> Expr -> Bool) (x:Expr):Bool:=if h:x.ctorIdx = 2 then Expr.BinOp.elim (motive_1:=fun _ => Bool) x h fun l o r _ => f l o r else false
theorem vBin_elim {f:Expr -> Operator -> Expr -> Bool} (h:vBin f x = true) (k:∀ l o r p,f l o r = true -> motive (.BinOp l o r p)):motive x:=
 if c:x.ctorIdx = 2 then Expr.BinOp.elim (motive_1:=fun x => vBin f x = true -> motive x) x c k h else absurd ((dif_neg c).symm.trans h) Bool.false_ne_true
noncomputable def vCmp (f:Expr -> List CmpOp -> List Expr -> Bool) (x:Expr):Bool:=if h:x.ctorIdx = 15 then Expr.Compare.elim (motive_1:=fun _ => Bool) x h fun l os rs _ => f l os rs else false
theorem vCmp_elim {f:Expr -> List CmpOp -> List Expr -> Bool} (h:vCmp f x = true) (k:∀ l os rs p,f l os rs = true -> motive (.Compare l os rs p)):motive x:=
 if c:x.ctorIdx = 15 then Expr.Compare.elim (motive_1:=fun x => vCmp f x = true -> motive x) x c k h else absurd ((dif_neg c).symm.trans h) Bool.false_ne_true
noncomputable def vBo (f:BoolOp -> List Expr -> Bool) (x:Expr):Bool:=if h:x.ctorIdx = 0 then Expr.BoolOp.elim (motive_1:=fun _ => Bool) x h fun o ys _ => f o ys else false
theorem vBo_elim {f:BoolOp -> List Expr -> Bool} (h:vBo f x = true) (k:∀ o ys p,f o ys = true -> motive (.BoolOp o ys p)):motive x:=
 if c:x.ctorIdx = 0 then Expr.BoolOp.elim (motive_1:=fun x => vBo f x = true -> motive x) x c k h else absurd ((dif_neg c).symm.trans h) Bool.false_ne_true
noncomputable def vIf (f:Expr -> Expr -> Expr -> Bool) (x:Expr):Bool:=if h:x.ctorIdx = 5 then Expr.IfExp.elim (motive_1:=fun _ => Bool) x h fun c y z _ => f c y z else false
theorem vIf_elim {f:Expr -> Expr -> Expr -> Bool} (h:vIf f x = true) (k:∀ c y z p,f c y z = true -> motive (.IfExp c y z p)):motive x:=
 if c:x.ctorIdx = 5 then Expr.IfExp.elim (motive_1:=fun x => vIf f x = true -> motive x) x c k h else absurd ((dif_neg c).symm.trans h) Bool.false_ne_true
noncomputable def vTup (f:List Expr -> Bool) (x:Expr):Bool:=if h:x.ctorIdx = 25 then Expr.Tuple.elim (motive_1:=fun _ => Bool) x h fun ys _ _ => f ys else false
theorem vTup_elim {f:List Expr -> Bool} (h:vTup f x = true) (k:∀ ys k p,f ys = true -> motive (.Tuple ys k p)):motive x:=
 if c:x.ctorIdx = 25 then Expr.Tuple.elim (motive_1:=fun x => vTup f x = true -> motive x) x c k h else absurd ((dif_neg c).symm.trans h) Bool.false_ne_true
noncomputable def vLst (f:List Expr -> Bool) (x:Expr):Bool:=if h:x.ctorIdx = 24 then Expr.List.elim (motive_1:=fun _ => Bool) x h fun ys _ => f ys else false
theorem vLst_elim {f:List Expr -> Bool} (h:vLst f x = true) (k:∀ ys p,f ys = true -> motive (.List ys p)):motive x:=
 if c:x.ctorIdx = 24 then Expr.List.elim (motive_1:=fun x => vLst f x = true -> motive x) x c k h else absurd ((dif_neg c).symm.trans h) Bool.false_ne_true
noncomputable def vLC0 (f:Expr -> List Comprehension -> Scope -> Bool) (x:Expr):Bool:=if h:x.ctorIdx = 8 then Expr.ListComp.elim (motive_1:=fun _ => Bool) x h fun e gs sc _ => f e gs sc else false
theorem vLC0_elim {f:Expr -> List Comprehension -> Scope -> Bool} (h:vLC0 f x = true) (k:∀ e gs sc p,f e gs sc = true -> motive (.ListComp e gs sc p)):motive x:=
 if c:x.ctorIdx = 8 then Expr.ListComp.elim (motive_1:=fun x => vLC0 f x = true -> motive x) x c k h else absurd ((dif_neg c).symm.trans h) Bool.false_ne_true
noncomputable def vSub (f:Expr -> Expr -> Bool) (x:Expr):Bool:=if h:x.ctorIdx = 21 then Expr.Subscript.elim (motive_1:=fun _ => Bool) x h fun y z _ => f y z else false
theorem vSub_elim {f:Expr -> Expr -> Bool} (h:vSub f x = true) (k:∀ y z p,f y z = true -> motive (.Subscript y z p)):motive x:=
 if c:x.ctorIdx = 21 then Expr.Subscript.elim (motive_1:=fun x => vSub f x = true -> motive x) x c k h else absurd ((dif_neg c).symm.trans h) Bool.false_ne_true
noncomputable def vSl (f:Option Expr -> Option Expr -> Option Expr -> Bool) (x:Expr):Bool:=if h:x.ctorIdx = 26 then Expr.Slice.elim (motive_1:=fun _ => Bool) x h fun l u s _ => f l u s else false
theorem vSl_elim {f:Option Expr -> Option Expr -> Option Expr -> Bool} (h:vSl f x = true) (k:∀ l u s p,f l u s = true -> motive (.Slice l u s p)):motive x:=
 if c:x.ctorIdx = 26 then Expr.Slice.elim (motive_1:=fun x => vSl f x = true -> motive x) x c k h else absurd ((dif_neg c).symm.trans h) Bool.false_ne_true
noncomputable def vCall (f:Expr -> List Expr -> List Keyword -> Pos -> Bool) (x:Expr):Bool:=if h:x.ctorIdx = 16 then Expr.Call.elim (motive_1:=fun _ => Bool) x h fun g ys ks p => f g ys ks p else false
theorem vCall_elim {f:Expr -> List Expr -> List Keyword -> Pos -> Bool} (h:vCall f x = true) (k:∀ g ys ks p,f g ys ks p = true -> motive (.Call g ys ks p)):motive x:=
 if c:x.ctorIdx = 16 then Expr.Call.elim (motive_1:=fun x => vCall f x = true -> motive x) x c k h else absurd ((dif_neg c).symm.trans h) Bool.false_ne_true
noncomputable def vAtt (f:Expr -> Str -> Pos -> Bool) (x:Expr):Bool:=if h:x.ctorIdx = 20 then Expr.Attribute.elim (motive_1:=fun _ => Bool) x h fun o n p => f o n p else false
theorem vAtt_elim {f:Expr -> Str -> Pos -> Bool} (h:vAtt f x = true) (k:∀ o n p,f o n p = true -> motive (.Attribute o n p)):motive x:=
 if c:x.ctorIdx = 20 then Expr.Attribute.elim (motive_1:=fun x => vAtt f x = true -> motive x) x c k h else absurd ((dif_neg c).symm.trans h) Bool.false_ne_true
noncomputable def vJS (f:List Expr -> Bool) (x:Expr):Bool:=if h:x.ctorIdx = 18 then Expr.JoinedStr.elim (motive_1:=fun _ => Bool) x h fun ys _ => f ys else false
theorem vJS_elim {f:List Expr -> Bool} (h:vJS f x = true) (k:∀ ys p,f ys = true -> motive (.JoinedStr ys p)):motive x:=
 if c:x.ctorIdx = 18 then Expr.JoinedStr.elim (motive_1:=fun x => vJS f x = true -> motive x) x c k h else absurd ((dif_neg c).symm.trans h) Bool.false_ne_true
noncomputable def vFV (f:Expr -> Int -> Option Expr -> Bool) (x:Expr):Bool:=if h:x.ctorIdx = 17 then Expr.FormattedValue.elim (motive_1:=fun _ => Bool) x h fun y c s _ => f y c s else false
theorem vFV_elim {f:Expr -> Int -> Option Expr -> Bool} (h:vFV f x = true) (k:∀ y c s p,f y c s = true -> motive (.FormattedValue y c s p)):motive x:=
 if c:x.ctorIdx = 17 then Expr.FormattedValue.elim (motive_1:=fun x => vFV f x = true -> motive x) x c k h else absurd ((dif_neg c).symm.trans h) Bool.false_ne_true
noncomputable def vLam (f:Arguments -> Expr -> Scope -> Pos -> Bool) (x:Expr):Bool:=if h:x.ctorIdx = 4 then Expr.Lambda.elim (motive_1:=fun _ => Bool) x h fun a b s p => f a b s p else false
theorem vLam_elim {f:Arguments -> Expr -> Scope -> Pos -> Bool} (h:vLam f x = true) (k:∀ a b s p,f a b s p = true -> motive (.Lambda a b s p)):motive x:=
 if c:x.ctorIdx = 4 then Expr.Lambda.elim (motive_1:=fun x => vLam f x = true -> motive x) x c k h else absurd ((dif_neg c).symm.trans h) Bool.false_ne_true
noncomputable def cInt (f:Int -> Bool):Const -> Bool
 | .int j => f j
 | _ => false
theorem cInt_elim {f:Int -> Bool} {c:Const} {motive:Const -> Prop} (h:cInt f c = true) (k:∀ j,f j = true -> motive (.int j)):motive c:=by
 cases c <;> first | exact k _ h | exact (Bool.false_ne_true h).elim
noncomputable def cStr (f:Str -> Bool):Const -> Bool
 | .str j => f j
 | _ => false
theorem cStr_elim {f:Str -> Bool} {c:Const} {motive:Const -> Prop} (h:cStr f c = true) (k:∀ j,f j = true -> motive (.str j)):motive c:=by
 cases c <;> first | exact k _ h | exact (Bool.false_ne_true h).elim
noncomputable def cBool (f:Bool -> Bool):Const -> Bool
 | .bool j => f j
 | _ => false
theorem cBool_elim {f:Bool -> Bool} {c:Const} {motive:Const -> Prop} (h:cBool f c = true) (k:∀ j,f j = true -> motive (.bool j)):motive c:=by
 cases c <;> first | exact k _ h | exact (Bool.false_ne_true h).elim
noncomputable def cNone:Const -> Bool
 | .none => true
 | _ => false
noncomputable def vInt (f:Int -> Bool):Expr -> Bool:=vCon (cInt f)
theorem vInt_elim {f:Int -> Bool} (h:vInt f x = true) (k:∀ j i p,f j = true -> motive (.Constant (.int j) i p)):motive x:=vCon_elim h fun _ i p h => cInt_elim (motive:=fun c => motive (.Constant c i p)) h fun j h => k j i p h
noncomputable def vStr (f:Str -> Bool):Expr -> Bool:=vCon (cStr f)
theorem vStr_elim {f:Str -> Bool} (h:vStr f x = true) (k:∀ j i p,f j = true -> motive (.Constant (.str j) i p)):motive x:=vCon_elim h fun _ i p h => cStr_elim (motive:=fun c => motive (.Constant c i p)) h fun j h => k j i p h
noncomputable def vBoo (f:Bool -> Bool):Expr -> Bool:=vCon (cBool f)
theorem vBoo_elim {f:Bool -> Bool} (h:vBoo f x = true) (k:∀ j i p,f j = true -> motive (.Constant (.bool j) i p)):motive x:=vCon_elim h fun _ i p h => cBool_elim (motive:=fun c => motive (.Constant c i p)) h fun j h => k j i p h
noncomputable def vNone:Expr -> Bool:=vCon cNone
theorem vNone_elim (h:vNone x = true) (k:∀ i p,motive (.Constant .none i p)):motive x:=vCon_elim h fun c i p h => by
 cases c <;> first | exact k i p | exact (Bool.false_ne_true h).elim
noncomputable def isUSub:UnaryOp -> Bool
 | .USub => true
 | _ => false
noncomputable def isNot:UnaryOp -> Bool
 | .Not => true
 | _ => false
noncomputable def isAnd:BoolOp -> Bool
 | .And => true
 | _ => false
noncomputable def isOr:BoolOp -> Bool
 | .Or => true
 | _ => false
noncomputable def vUSub (f:Expr -> Bool):Expr -> Bool:=vUn fun o y => isUSub o && f y
theorem vUSub_elim {f:Expr -> Bool} (h:vUSub f x = true) (k:∀ y p,f y = true -> motive (.UnaryOp .USub y p)):motive x:=vUn_elim h fun o y p h => by
 cases o <;> first | exact k y p h | exact (Bool.false_ne_true h).elim
noncomputable def vNot (f:Expr -> Bool):Expr -> Bool:=vUn fun o y => isNot o && f y
theorem vNot_elim {f:Expr -> Bool} (h:vNot f x = true) (k:∀ y p,f y = true -> motive (.UnaryOp .Not y p)):motive x:=vUn_elim h fun o y p h => by
 cases o <;> first | exact k y p h | exact (Bool.false_ne_true h).elim
noncomputable def vAnd (f:List Expr -> Bool):Expr -> Bool:=vBo fun o y => isAnd o && f y
theorem vAnd_elim {f:List Expr -> Bool} (h:vAnd f x = true) (k:∀ y p,f y = true -> motive (.BoolOp .And y p)):motive x:=vBo_elim h fun o y p h => by
 cases o <;> first | exact k y p h | exact (Bool.false_ne_true h).elim
noncomputable def vOr (f:List Expr -> Bool):Expr -> Bool:=vBo fun o y => isOr o && f y
theorem vOr_elim {f:List Expr -> Bool} (h:vOr f x = true) (k:∀ y p,f y = true -> motive (.BoolOp .Or y p)):motive x:=vBo_elim h fun o y p h => by
 cases o <;> first | exact k y p h | exact (Bool.false_ne_true h).elim
noncomputable def l1 {α:Type} (f:α -> Bool):List α -> Bool
 | [] => false
 | y :: r => r.isEmpty && f y
noncomputable def l2 {α:Type} (f:α -> α -> Bool):List α -> Bool
 | [] => false
 | y :: r => l1 (f y) r
noncomputable def l3 {α:Type} (f:α -> α -> α -> Bool):List α -> Bool
 | [] => false
 | y :: r => l2 (f y) r
theorem nil_elim {α:Type} {l:List α} {b:Bool} {motive:List α -> Prop} (h:(l.isEmpty && b) = true) (k:b = true -> motive []):motive l:=by
 cases l with
 | nil => exact k h
 | cons _ _ => exact (Bool.false_ne_true h).elim
theorem l1_elim {α:Type} {f:α -> Bool} {l:List α} {motive:List α -> Prop} (h:l1 f l = true) (k:∀ y,f y = true -> motive [y]):motive l:=by
 cases l with
 | nil => exact (Bool.false_ne_true h).elim
 | cons y r => exact nil_elim (motive:=fun r => motive (y :: r)) h (k y)
theorem l2_elim {α:Type} {f:α -> α -> Bool} {l:List α} {motive:List α -> Prop} (h:l2 f l = true) (k:∀ y z,f y z = true -> motive [y,z]):motive l:=by
 cases l with
 | nil => exact (Bool.false_ne_true h).elim
 | cons y r => exact l1_elim (motive:=fun r => motive (y :: r)) h (k y)
theorem l3_elim {α:Type} {f:α -> α -> α -> Bool} {l:List α} {motive:List α -> Prop} (h:l3 f l = true) (k:∀ y z u,f y z u = true -> motive [y,z,u]):motive l:=by
 cases l with
 | nil => exact (Bool.false_ne_true h).elim
 | cons y r => exact l2_elim (motive:=fun r => motive (y :: r)) h (k y)
noncomputable def vCallN (f:Str -> List Expr -> Bool):Expr -> Bool:=vCall fun g ys ks _ => ks.isEmpty && vNm (fun n => f n ys) g
theorem vCallN_elim {f:Str -> List Expr -> Bool} (h:vCallN f x = true) (k:∀ n p ys q,f n ys = true -> motive (.Call (.Name n p) ys [] q)):motive x:=
 vCall_elim h fun g ys ks q h => nil_elim (motive:=fun ks => motive (.Call g ys ks q)) h fun h => vNm_elim (motive:=fun g => motive (.Call g ys [] q)) h fun n p h => k n p ys q h
noncomputable def vCallN1 (f:Str -> Expr -> Bool):Expr -> Bool:=vCallN fun n ys => l1 (f n) ys
theorem vCallN1_elim {f:Str -> Expr -> Bool} (h:vCallN1 f x = true) (k:∀ n p y q,f n y = true -> motive (.Call (.Name n p) [y] [] q)):motive x:=
 vCallN_elim h fun n p ys q h => l1_elim (motive:=fun ys => motive (.Call (.Name n p) ys [] q)) h fun y h => k n p y q h
noncomputable def vCallN2 (f:Str -> Expr -> Expr -> Bool):Expr -> Bool:=vCallN fun n ys => l2 (f n) ys
theorem vCallN2_elim {f:Str -> Expr -> Expr -> Bool} (h:vCallN2 f x = true) (k:∀ n p y z q,f n y z = true -> motive (.Call (.Name n p) [y,z] [] q)):motive x:=
 vCallN_elim h fun n p ys q h => l2_elim (motive:=fun ys => motive (.Call (.Name n p) ys [] q)) h fun y z h => k n p y z q h
noncomputable def vCallNM (f:Str -> Str -> Bool):Expr -> Bool:=vCallN1 fun n y => vNm (f n) y
theorem vCallNM_elim {f:Str -> Str -> Bool} (h:vCallNM f x = true) (k:∀ n p m u q,f n m = true -> motive (.Call (.Name n p) [.Name m u] [] q)):motive x:=
 vCallN1_elim h fun n p y q h => vNm_elim (motive:=fun y => motive (.Call (.Name n p) [y] [] q)) h fun m u h => k n p m u q h
noncomputable def vCallA (f:Expr -> Str -> Pos -> List Expr -> Pos -> Bool):Expr -> Bool:=vCall fun g ys ks cp => ks.isEmpty && vAtt (fun o n ap => f o n ap ys cp) g
theorem vCallA_elim {f:Expr -> Str -> Pos -> List Expr -> Pos -> Bool} (h:vCallA f x = true) (k:∀ o n ap ys cp,f o n ap ys cp = true -> motive (.Call (.Attribute o n ap) ys [] cp)):motive x:=
 vCall_elim h fun g ys ks q h => nil_elim (motive:=fun ks => motive (.Call g ys ks q)) h fun h => vAtt_elim (motive:=fun g => motive (.Call g ys [] q)) h fun o n ap h => k o n ap ys q h
noncomputable def vCallP (f:Str -> Str -> Pos -> List Expr -> Pos -> Bool):Expr -> Bool:=vCallA fun o m ap ys cp => vNm (fun n => f n m ap ys cp) o
theorem vCallP_elim {f:Str -> Str -> Pos -> List Expr -> Pos -> Bool} (h:vCallP f x = true) (k:∀ n p m ap ys cp,f n m ap ys cp = true -> motive (.Call (.Attribute (.Name n p) m ap) ys [] cp)):motive x:=
 vCallA_elim h fun o m ap ys cp h => vNm_elim (motive:=fun o => motive (.Call (.Attribute o m ap) ys [] cp)) h fun n p h => k n p m ap ys cp h
noncomputable def vCallP1 (f:Str -> Str -> Pos -> Expr -> Pos -> Bool):Expr -> Bool:=vCallP fun n m ap ys cp => l1 (fun y => f n m ap y cp) ys
theorem vCallP1_elim {f:Str -> Str -> Pos -> Expr -> Pos -> Bool} (h:vCallP1 f x = true) (k:∀ n p m ap y cp,f n m ap y cp = true -> motive (.Call (.Attribute (.Name n p) m ap) [y] [] cp)):motive x:=
 vCallP_elim h fun n p m ap ys cp h => l1_elim (motive:=fun ys => motive (.Call (.Attribute (.Name n p) m ap) ys [] cp)) h fun y h => k n p m ap y cp h
noncomputable def vCallP2 (f:Str -> Str -> Pos -> Expr -> Expr -> Pos -> Bool):Expr -> Bool:=vCallP fun n m ap ys cp => l2 (fun y z => f n m ap y z cp) ys
theorem vCallP2_elim {f:Str -> Str -> Pos -> Expr -> Expr -> Pos -> Bool} (h:vCallP2 f x = true) (k:∀ n p m ap y z cp,f n m ap y z cp = true -> motive (.Call (.Attribute (.Name n p) m ap) [y,z] [] cp)):motive x:=
 vCallP_elim h fun n p m ap ys cp h => l2_elim (motive:=fun ys => motive (.Call (.Attribute (.Name n p) m ap) ys [] cp)) h fun y z h => k n p m ap y z cp h
noncomputable def vCallPL (f:Str -> Str -> Pos -> Arguments -> Expr -> Scope -> Pos -> Expr -> Pos -> Bool):Expr -> Bool:=vCallP2 fun n m ap y z cp => vLam (fun a b s p => f n m ap a b s p z cp) y
theorem vCallPL_elim {f:Str -> Str -> Pos -> Arguments -> Expr -> Scope -> Pos -> Expr -> Pos -> Bool} (h:vCallPL f x = true) (k:∀ n p m ap a b s q z cp,f n m ap a b s q z cp = true -> motive (.Call (.Attribute (.Name n p) m ap) [.Lambda a b s q,z] [] cp)):motive x:=
 vCallP2_elim h fun n p m ap y z cp h => vLam_elim (motive:=fun y => motive (.Call (.Attribute (.Name n p) m ap) [y,z] [] cp)) h fun a b s q h => k n p m ap a b s q z cp h
noncomputable def vCallPS (f:Str -> Str -> Pos -> Str -> Expr -> Pos -> Bool):Expr -> Bool:=vCallP2 fun n m ap y z cp => vStr (fun s => f n m ap s z cp) y
theorem vCallPS_elim {f:Str -> Str -> Pos -> Str -> Expr -> Pos -> Bool} (h:vCallPS f x = true) (k:∀ n p m ap s i q z cp,f n m ap s z cp = true -> motive (.Call (.Attribute (.Name n p) m ap) [.Constant (.str s) i q,z] [] cp)):motive x:=
 vCallP2_elim h fun n p m ap y z cp h => vStr_elim (motive:=fun y => motive (.Call (.Attribute (.Name n p) m ap) [y,z] [] cp)) h fun s i q h => k n p m ap s i q z cp h
noncomputable def vCallPI (f:Str -> Str -> Pos -> Int -> Pos -> Bool):Expr -> Bool:=vCallP1 fun n m ap y cp => vInt (fun j => f n m ap j cp) y
theorem vCallPI_elim {f:Str -> Str -> Pos -> Int -> Pos -> Bool} (h:vCallPI f x = true) (k:∀ n p m ap j i q cp,f n m ap j cp = true -> motive (.Call (.Attribute (.Name n p) m ap) [.Constant (.int j) i q] [] cp)):motive x:=
 vCallP1_elim h fun n p m ap y cp h => vInt_elim (motive:=fun y => motive (.Call (.Attribute (.Name n p) m ap) [y] [] cp)) h fun j i q h => k n p m ap j i q cp h
noncomputable def vAttN (f:Str -> Str -> Bool):Expr -> Bool:=vAtt fun o m _ => vNm (fun n => f n m) o
theorem vAttN_elim {f:Str -> Str -> Bool} (h:vAttN f x = true) (k:∀ n p m ap,f n m = true -> motive (.Attribute (.Name n p) m ap)):motive x:=
 vAtt_elim h fun o m ap h => vNm_elim (motive:=fun o => motive (.Attribute o m ap)) h fun n p h => k n p m ap h
noncomputable def isMod:Operator -> Bool
 | .Mod => true
 | _ => false
noncomputable def isAdd:Operator -> Bool
 | .Add => true
 | _ => false
noncomputable def vBinS (f:Str -> Expr -> Bool):Expr -> Bool:=vBin fun l o r => isMod o && vStr (fun s => f s r) l
theorem vBinS_elim {f:Str -> Expr -> Bool} (h:vBinS f x = true) (k:∀ s i q r p,f s r = true -> motive (.BinOp (.Constant (.str s) i q) .Mod r p)):motive x:=
 vBin_elim h fun l o r p h => by
  cases o <;> first | exact (Bool.false_ne_true h).elim | exact vStr_elim (f:=fun s => f s r) (motive:=fun l => motive (.BinOp l .Mod r p)) h fun s i q h => k s i q r p h
noncomputable def vBinA (f:Str -> Expr -> Bool):Expr -> Bool:=vBin fun l o r => isAdd o && vStr (fun s => f s r) l
theorem vBinA_elim {f:Str -> Expr -> Bool} (h:vBinA f x = true) (k:∀ s i q r p,f s r = true -> motive (.BinOp (.Constant (.str s) i q) .Add r p)):motive x:=
 vBin_elim h fun l o r p h => by
  cases o <;> first | exact (Bool.false_ne_true h).elim | exact vStr_elim (f:=fun s => f s r) (motive:=fun l => motive (.BinOp l .Add r p)) h fun s i q h => k s i q r p h
noncomputable def isN {α:Type}:Option α -> Bool
 | .none => true
 | _ => false
theorem isN_elim {α:Type} {o:Option α} {b:Bool} {motive:Option α -> Prop} (h:(isN o && b) = true) (k:b = true -> motive none):motive o:=by
 cases o with
 | none => exact k h
 | some _ => exact (Bool.false_ne_true h).elim
noncomputable def vFVn (f:Expr -> Int -> Bool):Expr -> Bool:=vFV fun y c s => isN s && f y c
theorem vFVn_elim {f:Expr -> Int -> Bool} (h:vFVn f x = true) (k:∀ y c p,f y c = true -> motive (.FormattedValue y c .none p)):motive x:=
 vFV_elim h fun y c s p h => isN_elim (motive:=fun s => motive (.FormattedValue y c s p)) h fun h => k y c p h
noncomputable def vJF (f:Expr -> Int -> Str -> Expr -> Int -> Bool):Expr -> Bool:=vJS fun xs => l3 (fun a b c => vFVn (fun y c1 => vStr (fun s => vFVn (fun z c2 => f y c1 s z c2) c) b) a) xs
theorem vJF_elim {f:Expr -> Int -> Str -> Expr -> Int -> Bool} (h:vJF f x = true) (k:∀ y c1 p1 s i p2 z c2 p3 p,f y c1 s z c2 = true -> motive (.JoinedStr [.FormattedValue y c1 .none p1,.Constant (.str s) i p2,.FormattedValue z c2 .none p3] p)):motive x:=
 vJS_elim h fun xs p h => l3_elim (motive:=fun xs => motive (.JoinedStr xs p)) h fun a b c h => vFVn_elim (motive:=fun a => motive (.JoinedStr [a,b,c] p)) h fun y c1 p1 h => vStr_elim (motive:=fun b => motive (.JoinedStr [.FormattedValue y c1 .none p1,b,c] p)) h fun s i p2 h => vFVn_elim (motive:=fun c => motive (.JoinedStr [.FormattedValue y c1 .none p1,.Constant (.str s) i p2,c] p)) h fun z c2 p3 h => k y c1 p1 s i p2 z c2 p3 p h
noncomputable def vCmp1 (f:Expr -> CmpOp -> Expr -> Bool):Expr -> Bool:=vCmp fun l os rs => l1 (fun o => l1 (fun r => f l o r) rs) os
theorem vCmp1_elim {f:Expr -> CmpOp -> Expr -> Bool} (h:vCmp1 f x = true) (k:∀ l o r p,f l o r = true -> motive (.Compare l [o] [r] p)):motive x:=
 vCmp_elim h fun l os rs p h => l1_elim (motive:=fun os => motive (.Compare l os rs p)) h fun o h => l1_elim (motive:=fun rs => motive (.Compare l [o] rs p)) h fun r h => k l o r p h
noncomputable def vLC (f:Expr -> Expr -> Expr -> List Expr -> Int -> Scope -> Bool):Expr -> Bool:=vLC0 fun e gs sc => l1 (fun g => f e g.target g.iter g.ifs g.is_async sc) gs
theorem vLC_elim {f:Expr -> Expr -> Expr -> List Expr -> Int -> Scope -> Bool} (h:vLC f x = true) (k:∀ e tgt iter ifs isA sc p,f e tgt iter ifs isA sc = true -> motive (.ListComp e [⟨tgt,iter,ifs,isA⟩] sc p)):motive x:=
 vLC0_elim h fun e gs sc p h => l1_elim (motive:=fun gs => motive (.ListComp e gs sc p)) h fun g h => by
  cases g; exact k e _ _ _ _ sc p h
noncomputable def vSlc (f:Expr -> Option Expr -> Option Expr -> Bool):Expr -> Bool:=vSub fun y z => vSl (fun l u s => isN s && f y l u) z
theorem vSlc_elim {f:Expr -> Option Expr -> Option Expr -> Bool} (h:vSlc f x = true) (k:∀ y l u q p,f y l u = true -> motive (.Subscript y (.Slice l u .none q) p)):motive x:=
 vSub_elim h fun y z p h => vSl_elim (motive:=fun z => motive (.Subscript y z p)) h fun l u s q h => isN_elim (motive:=fun s => motive (.Subscript y (.Slice l u s q) p)) h fun h => k y l u q p h
noncomputable def isSl:Expr -> Bool:=vSl fun _ _ _ => true
noncomputable def nm1 (x:Expr):Option Str:=if h:x.ctorIdx = 23 then Expr.Name.elim (motive_1:=fun _ => Option Str) x h fun n _ => some n else none
theorem nm1_inv {y:Str} (h:nm1 x = some y):∃ p,x = .Name y p:=
 if k:x.ctorIdx = 23 then Expr.Name.elim (motive_1:=fun x => nm1 x = some y -> ∃ p,x = .Name y p) x k (fun n p h => ⟨p,congrArg (Expr.Name · p) (Option.some.inj h)⟩) h else absurd ((dif_neg k).symm.trans h) (fun e => nomatch e)
noncomputable def allNames:List Expr -> Option (List Str)
 | [] => some []
 | y :: r => (nm1 y).bind fun n => (allNames r).map (n :: ·)
noncomputable def tupOf (x:Expr):Option (List Expr):=if h:x.ctorIdx = 25 then Expr.Tuple.elim (motive_1:=fun _ => Option (List Expr)) x h fun ys _ _ => some ys else none
theorem tupOf_inv {ys:List Expr} (h:tupOf x = some ys):∃ k p,x = .Tuple ys k p:=
 if k:x.ctorIdx = 25 then Expr.Tuple.elim (motive_1:=fun x => tupOf x = some ys -> ∃ k p,x = .Tuple ys k p) x k (fun n k p h => ⟨k,p,congrArg (Expr.Tuple · k p) (Option.some.inj h)⟩) h else absurd ((dif_neg k).symm.trans h) (fun e => nomatch e)
noncomputable def tgtNames (x:Expr):Option (List Str):=match nm1 x with
 | some n => some [n]
 | none => (tupOf x).bind fun ys => (allNames ys).bind fun ns => if 2 <= ns.length then some ns else none
theorem allNames_inv:∀ {ys:List Expr} {ns:List Str},allNames ys = some ns -> ∃ ps:List Pos,ys = (ns.zip ps).map (fun q => .Name q.1 q.2) /\ ns.length = ps.length
 | [],_,h => by cases h; exact ⟨[],rfl,rfl⟩
 | y :: r,ns,h => by
  refine xEA (Option.bind_eq_some_iff.mp h) fun n hn h => ?_
  obtain ⟨p,rfl⟩:=nm1_inv hn
  refine xEA (Option.map_eq_some_iff.mp h) fun ms hm r2 => ?_
  obtain rfl:=r2
  refine xEA (allNames_inv hm) fun ps r1 hl => ?_
  obtain rfl:=r1
  exact ⟨p :: ps,rfl,congrArg (· + 1) hl⟩
theorem tgt_cases {ns:List Str} (h:tgtNames x = some ns):(∃ y p,x = .Name y p /\ ns = [y]) \/ (∃ ps k p,x = .Tuple ((ns.zip ps).map fun q => .Name q.1 q.2) k p /\ ns.length = ps.length /\ 2 <= ns.length):=by
 unfold tgtNames at h
 cases e:nm1 x with
 | some n =>
  rw [e] at h
  cases h
  obtain ⟨p,rfl⟩:=nm1_inv e
  exact .inl ⟨n,p,rfl,rfl⟩
 | none =>
  rw [e] at h
  refine xEA (Option.bind_eq_some_iff.mp h) fun ys hy k1 => ?_
  refine xEA (Option.bind_eq_some_iff.mp k1) fun ms hm k2 => ?_
  clear h k1 e
  refine xEE (tupOf_inv hy) fun k p r2 => ?_
  obtain rfl:=r2
  cases hy
  refine xEA (allNames_inv hm) fun ps r1 hl => ?_
  obtain rfl:=r1
  by_cases h2:2 <= ms.length
  ·rw [if_pos h2] at k2; cases k2; exact .inr ⟨ps,k,p,rfl,hl,h2⟩
  ·rw [if_neg h2] at k2; cases k2
end
noncomputable def notCall (x:Expr):Bool:=!vCall (fun g _ _ _ => !vAtt (fun _ _ _ => true) g) x
noncomputable def isLam (p:Pat) (lam:Option Pos) (args:Arguments) (body:Expr) (sc:Scope) (pos:Pos):Bool:=
 (lam == some pos) && decide (sc.kind = .function) && !sc.isGenerator && !sc.isCoroutine && (sc.names == [(("_m":Str),.local)]) &&
 (args.posonlyargs.isEmpty && (isN args.vararg && (args.kwonlyargs.isEmpty && (args.kw_defaults.isEmpty && (isN args.kwarg && (args.defaults.isEmpty && l1 (fun a => isN a.annotation && a.arg == ("_m":Str)) args.args)))))) &&
 vBinA (fun s r => s == lamPre p && vOr (fun ys => l2 (fun y z => vCallPI (fun m g apos j cpos => m == ("_m":Str) && g == ("group":Str) && (apos.endLine == cpos.line) && j == 1) y && vStr (fun e => e == ("":Str)) z) ys) r) body && (p == .esc || p == .jesc)
noncomputable def isR1 (sc:Scope) (x:Expr) (f:Expr -> Bool):Bool:=vCallN1 (fun n y => n == ("range":Str) && gname sc n && f y) x
noncomputable def isTrueE (c:E):Bool:=if h:c.ctorIdx = 4 then E.bool.elim (motive:=fun _ => Bool) c h fun b => b else false
theorem isTrueE_inv {c:E} (h:isTrueE c = true):c = .bool true:=
 if k:c.ctorIdx = 4 then E.bool.elim (motive:=fun c => isTrueE c = true -> c = .bool true) c k (fun b h => congrArg E.bool h) h else absurd ((dif_neg k).symm.trans h) Bool.false_ne_true
noncomputable def isNoneE (c:E):Bool:=c.ctorIdx == 3
theorem isNoneE_inv {c:E} (h:isNoneE c = true):c = .none:=E.none.elim (motive:=fun c => c = .none) c (eq_of_beq h) rfl
noncomputable def partX (lo:E) (f:Expr -> Bool):Option Expr -> Bool
 | .none => isNoneE lo
 | .some l => f l
noncomputable def ifsX (c:E) (f:Expr -> Bool):List Expr -> Bool
 | [] => isTrueE c
 | y :: r => r.isEmpty && f y
mutual
noncomputable def isX (G:GC) (lam:Option Pos):E -> Bool -> List (Str × NameKind) -> Scope -> Expr -> Bool
 | .var i,t,Γ,sc,x => vNm (fun n => nameOk Γ sc i n) x
 | .none,t,Γ,sc,x => vNone x
 | .bool b,t,Γ,sc,x => vBoo (fun c => b == c) x
 | .int i,t,Γ,sc,x => vInt (fun j => i == j) x
 | .str s,t,Γ,sc,x => vStr (fun y => s == y && PyData.strOk s && decide ((tl s).length <= big)) x
 | .gstr n s,t,Γ,sc,x => vNm (fun y => y == n && gname sc n && G.consts.contains (n,s)) x
 | .neg a,t,Γ,sc,x => vUSub (fun y => isX G lam a false Γ sc y) x
 | .bin op a b,t,Γ,sc,x => vBin (fun l op' r => op == op' && isX G lam a false Γ sc l && isX G lam b false Γ sc r) x
 | .cmp op a b,t,Γ,sc,x => vCmp1 (fun l op' r => op == op' && !behindInMarks op r && isX G lam a false Γ sc l && isX G lam b false Γ sc r) x
 | .band es,t,Γ,sc,x => vAnd (fun ys => isXs G lam es t Γ sc ys && !ys.isEmpty) x
 | .bor es,t,Γ,sc,x => vOr (fun ys => isXs G lam es t Γ sc ys && !ys.isEmpty) x
 | .not_ a,t,Γ,sc,x => t && vNot (fun y => isX G lam a true Γ sc y) x
 | .ite c a b,t,Γ,sc,x => !t && vIf (fun c' y z => isX G lam c true Γ sc c' && isX G lam a false Γ sc y && isX G lam b false Γ sc z) x
 | .tup es,t,Γ,sc,x => vTup (fun ys => isXs G lam es false Γ sc ys && decide (ys.length <= 1000)) x
 | .lst es,t,Γ,sc,x => vLst (fun ys => isXs G lam es false Γ sc ys && decide (ys.length <= 1000)) x
 | .comp k it c e,t,Γ,sc,x => vLC (fun elt tgt iter ifs isA scope => (isA == 0) && (match tgtNames tgt with
   | some ns => (ns.length == k) && decide (ns.Nodup) && (match it with
     | .rng a => isR1 sc iter (isX G lam a false Γ sc)
     | it' => isX G lam it' false Γ sc iter) && scopeOk scope sc && lookups scope ns .local &&
     ifsX c (isX G none c true (kinds .local ns ++ Γ.map fun x => (x.1,.cell)) (relabelS scope sc)) ifs &&
     isX G none e false (kinds .local ns ++ Γ.map fun x => (x.1,.cell)) (relabelS scope sc) elt
   | none => false)) x
 | .rng _,_,_,_,_ => false
 | .idx a b,t,Γ,sc,x => vSub (fun y z => !isSl z && isX G lam a false Γ sc y && isX G lam b false Γ sc z) x
 | .slc a lo hi,t,Γ,sc,x => vSlc (fun y l u => isX G lam a false Γ sc y && partX lo (isX G lam lo false Γ sc) l && partX hi (isX G lam hi false Γ sc) u) x
 | .call f es,t,Γ,sc,x => vCallN (fun n ys => n == f && gname sc f && G.fns.contains f && decide (ys.length <= 20) && isXs G lam es false Γ sc ys && !ys.isEmpty) x
 | .callm f i,t,Γ,sc,x => vCallNM (fun n m => n == f && gname sc f && G.fns.contains f && nameOk Γ sc i m) x
 | .len a,t,Γ,sc,x => vCallN1 (fun f y => f == ("len":Str) && gname sc f && isX G lam a false Γ sc y) x
 | .chr_ a,t,Γ,sc,x => vCallN1 (fun f y => f == ("chr":Str) && gname sc f && isX G lam a false Γ sc y) x
 | .meth m a es,t,Γ,sc,x => vCallA (fun o n ap ys cp => n == m && methNames.contains m && (ap.endLine == cp.line) && notCall o && isX G lam a false Γ sc o && decide (ys.length <= 20) && isXs G lam es false Γ sc ys) x
 | .fmt1 a,t,Γ,sc,x => vBinS (fun s r => s == ("\"%s\"":Str) && isX G lam a false Γ sc r) x
 | .fmt2 a b,t,Γ,sc,x => vJF (fun y c1 s z c2 => (c1 == 115) && (c2 == 115) && s == ("=":Str) && isX G lam a false Γ sc y && isX G lam b false Γ sc z) x
 | .full p a,t,Γ,sc,x => t && vCallP1 (fun n m ap y cp => n == p.name && gname sc n && m == ("fullmatch":Str) && (ap.endLine == cp.line) && isX G lam a false Γ sc y) x
 | .subS p r a,t,Γ,sc,x => vCallP2 (fun n m ap y z cp => n == p.name && gname sc n && m == ("sub":Str) && (ap.endLine == cp.line) && isX G lam r false Γ sc y && isX G lam a false Γ sc z) x
 | .subL p a,t,Γ,sc,x => vCallPL (fun n m ap args body ls lp z cp => n == p.name && gname sc n && m == ("sub":Str) && (ap.endLine == cp.line) && isLam p lam args body ls lp && isX G lam a false Γ sc z) x
 | .subn p a,t,Γ,sc,x => vCallPS (fun n m ap s z cp => n == p.name && gname sc n && m == ("subn":Str) && (ap.endLine == cp.line) && s == ("":Str) && isX G lam a false Γ sc z) x
 | .grp i,t,Γ,sc,x => vCallPI (fun n m ap j cp => nameOk Γ sc i n && m == ("group":Str) && (ap.endLine == cp.line) && j == 1) x
 | .span i,t,Γ,sc,x => vCallPI (fun n m ap j cp => nameOk Γ sc i n && m == ("span":Str) && (ap.endLine == cp.line) && j == 0) x
 | .mstr i,t,Γ,sc,x => vAttN (fun n m => nameOk Γ sc i n && m == ("string":Str)) x
 | .hasm i,t,Γ,sc,x => t && vNm (fun n => nameOk Γ sc i n) x
 | .nil,_,_,_,_ => false
 | .cons _ _,_,_,_,_ => false
noncomputable def isXs (G:GC) (lam:Option Pos):E -> Bool -> List (Str × NameKind) -> Scope -> List Expr -> Bool
 | .nil,t,Γ,sc,xs => xs.isEmpty
 | .cons a b,t,Γ,sc,xs => match xs with | x :: r => isX G lam a t Γ sc x && isXs G lam b t Γ sc r | [] => false
 | _,_,_,_,_ => false
end
noncomputable def isI (G:GC) (lam:Option Pos) (e:E) (Γ:List (Str × NameKind)) (sc:Scope) (x:Expr):Bool:=match e with
 | .rng a => isR1 sc x (isX G lam a false Γ sc)
 | e => isX G lam e false Γ sc x
theorem isX_comp_eq {G:GC} {lam:Option Pos} {k:Nat} {it c e:E} {t:Bool} {Γ:List (Str × NameKind)} {sc:Scope} {x:Expr}:isX G lam (.comp k it c e) t Γ sc x = vLC (fun elt tgt iter ifs isA scope => (isA == 0) && (match tgtNames tgt with
   | some ns => (ns.length == k) && decide (ns.Nodup) && isI G lam it Γ sc iter && scopeOk scope sc && lookups scope ns .local &&
     ifsX c (isX G none c true (kinds .local ns ++ Γ.map fun x => (x.1,.cell)) (relabelS scope sc)) ifs &&
     isX G none e false (kinds .local ns ++ Γ.map fun x => (x.1,.cell)) (relabelS scope sc) elt
   | none => false)) x:=by cases it <;> kernel_rfl
theorem isX_comp {G:GC} {lam:Option Pos} {k:Nat} {it c e:E} {t:Bool} {Γ:List (Str × NameKind)} {sc:Scope} {x:Expr} {motive:Expr -> Prop} (h:isX G lam (.comp k it c e) t Γ sc x = true)
  (q:∀ elt tgt iter ifs scope pos ns,tgtNames tgt = some ns -> ns.length = k -> ns.Nodup -> isI G lam it Γ sc iter = true -> scopeOk scope sc = true -> lookups scope ns .local = true ->
   ((ifs = [] /\ c = .bool true) \/ ∃ c',ifs = [c'] /\ isX G none c true (kinds .local ns ++ Γ.map fun x => (x.1,.cell)) (relabelS scope sc) c' = true) ->
   isX G none e false (kinds .local ns ++ Γ.map fun x => (x.1,.cell)) (relabelS scope sc) elt = true -> motive (.ListComp elt [⟨tgt,iter,ifs,0⟩] scope pos)):motive x:=by
 replace h:=isX_comp_eq.symm.trans h
 refine vLC_elim h fun elt tgt iter ifs isA scope pos h => ?_
 obtain ⟨h0,h⟩:=Bool.and_eq_true_iff.mp h
 obtain rfl:=eq_of_beq h0
 cases hns:tgtNames tgt with
 | none => rw [hns] at h; cases h
 | some ns =>
  rw [hns] at h
  refine ba7 h fun h1 h2 h3 h4 h5 h6 h7 => ?_
  refine q elt tgt iter ifs scope pos ns hns (eq_of_beq h1) (of_decide_eq_true h2) h3 h4 h5 ?_ h7
  cases ifs with
  | nil => exact .inl ⟨rfl,isTrueE_inv h6⟩
  | cons y r => exact nil_elim (motive:=fun r => (y :: r = [] /\ c = .bool true) \/ ∃ c',y :: r = [c'] /\ isX G none c true (kinds .local ns ++ Γ.map fun x => (x.1,.cell)) (relabelS scope sc) c' = true) h6 fun h6 => .inr ⟨y,rfl,h6⟩
end Mine
end
section
namespace Mine
open PySem PySem.Builtin PySem.Builtin.Re PySem.F PySem.W PyProof.Rows
structure AOk (A:Around) (n:Nat):Prop where
 h:A.handled = none
 d:A.depth + n < 990
 u:A.units + 10 * n + 300 < 9900
theorem AOk.less {A:Around} {n k:Nat} (a:AOk A n) (h:k <= n):AOk A k:=⟨a.h,by have:=a.d; lia,by have:=a.u; lia⟩
theorem AOk.in1 {A:Around} {n:Nat} (a:AOk A (n + 1)):AOk A.in1 n:=⟨a.h,by have:=a.d; show A.depth + n < 990; (exact Nat.le_of_lt (by assumption)),by have:=a.u; show A.units + 1 + 10 * n + 300 < 9900; lia⟩
theorem AOk.deeper {A:Around} {n:Nat} {env:Env} (a:AOk A (n + 1)):AOk (A.deeper env) n:=⟨a.h,by have:=a.d; show A.depth + 1 + n < 990; lia,by have:=a.u; show A.units + 3 + 10 * n + 300 < 9900; lia⟩
theorem AOk.room {A:Around} {n:Nat} (a:AOk A n):A.units + 64 < cLine:=by have:=a.u; show A.units + 64 < 9900; lia
theorem AOk.dep {A:Around} {n:Nat} (a:AOk A n):A.depth < recursionLimit:=by have:=a.d; show A.depth < 1000; lia
structure Lam where
 c:Addr
 P:Addr
 pos:Pos
 q:Str
structure Cx where
 prog:Program
 w:World
 hb:Heap
 mg:Str -> Option Value
 mb:Str -> Option Value
 G:GC
 lams:List Lam
noncomputable def Cx.T (C:Cx):List Addr:=C.lams.map (·.P)
structure CxOk (C:Cx):Prop where
 g:C.hb.Ns mainGlobals C.mg
 gT:mainGlobals ∉ C.T
 b:C.hb.Ns builtinsNs C.mb
 bT:builtinsNs ∉ C.T
 nol:C.hb.NoLimit
 csT:cStatics ∉ C.T
 bi:∀ x:Str,x ≠ "__name__" -> C.mb x = bootBuiltins x
 free:∀ x ∈ (["len","sum","min","chr","range","isinstance","str"]:List Str),C.mg x = none
 con:∀ n s,(n,s) ∈ C.G.consts -> SOk s /\ ∃ t,C.mg n = some (.str s t)
 bm:∃ bm ob,C.mg "__builtins__" = some (.ref bm) /\ bm ≠ builtinsNs /\ bm ∉ C.T /\ C.hb.get? bm = some ob /\ ob.cls = .type "module" /\ ob.dict = some builtinsNs /\ ob.data = .plain
 inj:∀ l ∈ C.lams,∀ l' ∈ C.lams,l.P = l'.P -> l = l'
 pat:∀ p:Pat,∃ a,C.mg p.name = some (.ref a) /\ ∀ h,EX C.T C.hb h -> IsPat h a p.code p.groups
noncomputable def LamOk (H:Addr -> Prop) (h:Heap) (l:Lam):Prop:=
 CodeHd h l.c l.P /\ (h.get? l.P = some (tabObj #[]) \/ ∃ c',h.get? l.P = some (tabObj #[rawInt l.pos.line,rawInt l.pos.col,.ref c']) /\ ¬ H c' /\ h.CodeRec (.ref c') l.q)
structure GG (C:Cx) (H:Addr -> Prop) (h:Heap):Prop where
 base:EX C.T C.hb h
 lam:∀ l ∈ C.lams,LamOk H h l
 hid:∀ a ∈ C.T,H a
 cod:∀ l ∈ C.lams,¬ H l.c
 live:∀ a,H a -> ∃ o,h.get? a = some o
theorem codeHd_ex {X:List Addr} {h h':Heap} {c P:Addr} (x:CodeHd h c P) (hk:EX X h h') (hc:c ∉ X):CodeHd h' c P:=by obtain ⟨o,vs,file,tf,flags,tg,inF,text,tt,e,r⟩:=x; exact ⟨o,vs,file,tf,flags,tg,inF,text,tt,hk _ _ hc e,r⟩
theorem CodeRec.ex {X:List Addr} {h h':Heap} {c:Addr} {q:Str} (x:h.CodeRec (.ref c) q) (hk:EX X h h') (hc:c ∉ X):h'.CodeRec (.ref c) q:=by
 refine xEEEEAA (x) fun c' o vs t e g r => ?_
 cases e
 exact ⟨_,o,vs,t,rfl,hk _ _ hc g,r⟩
theorem CodeRec.some {h:Heap} {c:Addr} {q:Str} (x:h.CodeRec (.ref c) q):∃ o,h.get? c = some o:=by
 refine xEEEEAA (x) fun c' o vs t e g r => ?_
 cases e; exact ⟨o,g⟩
theorem codeHd_some {h:Heap} {c P:Addr} (x:CodeHd h c P):∃ o,h.get? c = some o:=by obtain ⟨o,_,_,_,_,_,_,_,_,e,_⟩:=x; exact ⟨o,e⟩
section
variable {C:Cx} {H H':Addr -> Prop} {h h':Heap} {X:List Addr}
theorem GG.step (g:GG C H h) (k:EX X h h') (hX:∀ a ∈ X,H a) (hT:∀ a ∈ X,a ∉ C.T) (hb:∀ a ∈ X,C.hb.get? a = none) (hL:∀ a ∈ X,∃ o,h'.get? a = some o):GG C H h':=by
 refine ⟨fun b o hb' e => k b o (fun m => by rw [hb b m] at e; cases e) (g.base b o hb' e),fun l hl => ?_,g.hid,g.cod,fun a ha => by
  by_cases m:a ∈ X
  ·exact hL a m
  ·obtain ⟨o,e⟩:=g.live a ha; exact ⟨o,k a o m e⟩⟩
 have hP:l.P ∉ X:=fun m => hT _ m (List.mem_map.mpr ⟨l,hl,rfl⟩)
 have hc:l.c ∉ X:=fun m => g.cod l hl (hX _ m)
 obtain ⟨cd,q⟩:=g.lam l hl
 refine ⟨codeHd_ex cd k hc,?_⟩
 rcases q with q | ⟨c',q,n,r⟩
 ·exact .inl (k _ _ hP q)
 ·exact .inr ⟨c',k _ _ hP q,n,CodeRec.ex r k fun m => n (hX _ m)⟩
theorem GG.less (g:GG C H h) (k:∀ a,H' a -> H a) (hT:∀ a ∈ C.T,H' a):GG C H' h:=
 ⟨g.base,fun l hl => ⟨(g.lam l hl).1,(g.lam l hl).2.imp id fun ⟨c',q,n,r⟩ => ⟨c',q,fun m => n (k _ m),r⟩⟩,hT,fun l hl m => g.cod l hl (k _ m),fun a ha => g.live a (k a ha)⟩
theorem GG.hide (g:GG C H h) (kk:Ext h h') (k:∀ a,H' a -> H a \/ h.get? a = none) (k':∀ a,H a -> H' a) (hL:∀ a,H' a -> ∃ o,h'.get? a = some o):GG C H' h':=by
 have key:∀ a o,h.get? a = some o -> ¬ H a -> ¬ H' a:=fun a o e n m => by
  rcases k a m with z | z
  ·exact n z
  ·rw [e] at z; cases z
 refine ⟨fun b o hb e => kk b o (g.base b o hb e),fun l hl => ?_,fun a ha => k' a (g.hid a ha),fun l hl => ?_,hL⟩
 ·obtain ⟨cd,q⟩:=g.lam l hl
  refine ⟨codeHd_ex (X:=[]) cd (fun b o _ e => kk b o e) (by simp),?_⟩
  rcases q with q | ⟨c',q,n,r⟩
  ·exact .inl (kk _ _ q)
  ·obtain ⟨o,e⟩:=CodeRec.some r
   exact .inr ⟨c',kk _ _ q,key _ _ e n,CodeRec.ex (X:=[]) r (fun b o _ e => kk b o e) (by simp)⟩
 ·obtain ⟨o,e⟩:=codeHd_some (g.lam l hl).1
  exact key _ _ e (g.cod l hl)
theorem GG.fresh (g:GG C H h) {a:Addr} (e:h.get? a = none):¬ H a:=fun m => by obtain ⟨o,z⟩:=g.live a m; rw [e] at z; cases z
theorem GG.new (g:GG C H h):¬ H h.objs.size:=g.fresh (Heap.get?_none_of_le (Nat.le_refl _))
theorem GG.same (g:GG C H h) (k:Ext h h'):GG C H h':=g.step (X:=[]) (fun b o _ e => k b o e) no_mem no_mem no_mem no_mem
theorem GG.ns (K:CxOk C) (g:GG C H h):h.Ns mainGlobals C.mg:=by obtain ⟨o,es,ep,e,r⟩:=K.g; exact ⟨o,es,ep,g.base _ _ K.gT e,r⟩
theorem GG.bs (K:CxOk C) (g:GG C H h):h.Ns builtinsNs C.mb:=by obtain ⟨o,es,ep,e,r⟩:=K.b; exact ⟨o,es,ep,g.base _ _ K.bT e,r⟩
theorem GG.nol (K:CxOk C) (g:GG C H h):h.NoLimit:=by obtain ⟨mc,⟨o,es,ep,e,r⟩,n⟩:=K.nol; exact ⟨mc,⟨o,es,ep,g.base _ _ K.csT e,r⟩,n⟩
theorem GG.bat (K:CxOk C) (g:GG C H h) {l:Lam} (hl:l ∈ C.lams):h.BuiltinsAt C.mg l.P:=by
 refine xEEAAAAAA (K.bm) fun bm ob h1 h2 h3 h4 h5 h6 h7 => ?_
 have e:=g.base _ _ h3 h4
 refine ⟨bm,ob,h1,h2,fun q => ?_,fun q => h3 (q ▸ List.mem_map.mpr ⟨l,hl,rfl⟩),e,h5,h6,h7⟩
 refine xEEEAA (g.ns K) fun o es ep e' d _ => ?_
 rw [q,e'] at e; cases e; rw [h7] at d; cases d
end
noncomputable def MtO (H:Addr -> Prop) (h:Heap) (a:Addr) (x:Str) (st hd:Nat) (gr:List (Nat × Nat)):Prop:=
 ¬ H a /\ SOk x /\ (tl x).length <= 10000 /\ ∃ (t:Tok) (p pos lim li:Value) (tp:Addr),¬ H tp /\ h.get? a = some { cls:=.type "re.Match",data:=.fields #[.str x t,p,pos,lim,li,.ref tp] } /\
  h.get? tp = some { cls:=.type "tuple",data:=.seq (spansOf st hd gr).toArray }
theorem MtO.isMatch {H:Addr -> Prop} {h:Heap} {a:Addr} {x:Str} {st hd:Nat} {gr:List (Nat × Nat)} (m:MtO H h a x st hd gr):IsMatch h a x st hd gr:=by obtain ⟨_,_,_,t,p,pos,lim,li,tp,_,e1,e2⟩:=m; exact ⟨t,p,pos,lim,li,tp,e1,e2⟩
theorem MtO.map {H H':Addr -> Prop} {h h':Heap} {a:Addr} {x:Str} {st hd:Nat} {gr:List (Nat × Nat)} (hH:∀ a o,h.get? a = some o -> ¬ H a -> ¬ H' a) (hk:∀ a o,¬ H a -> h.get? a = some o -> h'.get? a = some o)
  (m:MtO H h a x st hd gr):MtO H' h' a x st hd gr:=by obtain ⟨n,k,z,t,p,pos,lim,li,tp,n',e1,e2⟩:=m; exact ⟨hH _ _ e1 n,k,z,t,p,pos,lim,li,tp,hH _ _ e2 n',hk _ _ n e1,hk _ _ n' e2⟩
noncomputable def Loads (T:List Addr) (env:Env) (h:Heap) (x:Str) (k:NameKind) (v:Value):Prop:=
 (k = .local /\ env.locals ∉ T /\ ∃ m,h.Ns env.locals m /\ m x = some v) \/ (k = .cell /\ ∃ c,c ∉ T /\ env.cells.lookup x = some c /\ h.IsCell c (some v))
theorem Loads.ex {T:List Addr} {env:Env} {h h':Heap} {x:Str} {k:NameKind} {v:Value} (l:Loads T env h x k v) (q:EX T h h'):Loads T env h' x k v:=by
 rcases l with ⟨e,n,m,⟨o,es,ep,g,r⟩,hm⟩ | ⟨e,c,n,z,o,g,r⟩
 ·exact .inl ⟨e,n,m,⟨o,es,ep,q _ _ n g,r⟩,hm⟩
 ·exact .inr ⟨e,c,n,z,o,q _ _ n g,r⟩
noncomputable def RVok (H:Addr -> Prop) (h:Heap) (v:Value):RV -> Prop
 | .un => True
 | .d x => Rd H h v x
 | .mt x st hd gr => ∃ a,v = .ref a /\ MtO H h a x st hd gr
theorem RVok.ex {H:Addr -> Prop} {h h':Heap} {X:List Addr} {v:Value} {r:RV} (x:RVok H h v r) (k:EX X h h') (hX:∀ a ∈ X,H a):RVok H h' v r:=by
 cases r with
 | un => trivial
 | d y => exact Rd.ex x k hX
 | mt y st hd gr => obtain ⟨a,e,m⟩:=x; exact ⟨a,e,m.map (fun _ _ _ n => n) fun a o n e => k a o (fun z => n (hX a z)) e⟩
theorem RVok.more {H H':Addr -> Prop} {h:Heap} {v:Value} {r:RV} (x:RVok H h v r) (k:∀ a,H' a -> H a \/ h.get? a = none):RVok H' h v r:=by
 have q:∀ a o,h.get? a = some o -> ¬ H a -> ¬ H' a:=fun a o e n m => by
  rcases k a m with z | z
  ·exact n z
  ·rw [e] at z; cases z
 cases r with
 | un => trivial
 | d y => exact Rd.more x k
 | mt y st hd gr => obtain ⟨a,e,m⟩:=x; exact ⟨a,e,m.map q fun _ _ _ e => e⟩
theorem RVok.less {H H':Addr -> Prop} {h:Heap} {v:Value} {r:RV} (x:RVok H h v r) (k:∀ a,H' a -> H a):RVok H' h v r:=by
 cases r with
 | un => trivial
 | d y => exact Rd.less x k
 | mt y st hd gr => obtain ⟨a,e,m⟩:=x; exact ⟨a,e,m.map (fun _ _ _ n z => n (k _ z)) fun _ _ _ e => e⟩
structure FR (C:Cx) (Γ:List (Str × NameKind)) (env:Env) (ρ:List RV) (H:Addr -> Prop) (h:Heap):Prop where
 kind:env.scope.kind = .function
 glob:env.globals = mainGlobals
 bui:env.builtins = builtinsNs
 cell:∀ x,env.kindOf x = some .cell -> (env.cells.lookup x).isSome = true
 kk:∀ (i:Nat) x k,Γ[i]? = some (x,k) -> k = .cell \/ (k = .local /\ env.kindOf x ≠ some .cell)
 val:∀ i x k,Γ[i]? = some (x,k) -> env.kindOf x = some k -> getRV ρ i = .un \/ ∃ v,Loads C.T env h x k v /\ RVok H h v (getRV ρ i)
theorem FR.ex {C:Cx} {Γ:List (Str × NameKind)} {env:Env} {ρ:List RV} {H:Addr -> Prop} {h h':Heap} (f:FR C Γ env ρ H h) (k:EX C.T h h') (hX:∀ a ∈ C.T,H a):FR C Γ env ρ H h':=
 ⟨f.kind,f.glob,f.bui,f.cell,f.kk,fun i x q e1 e2 => (f.val i x q e1 e2).imp id fun ⟨v,l,r⟩ => ⟨v,l.ex k,r.ex k hX⟩⟩
noncomputable def KD (C:Cx) (H:Addr -> Prop) (s:Shared) (Q:Value -> Shared -> Prop) (d:PyData):Prop:=
 ∀ v h' tk,EX C.T s.heap h' -> GG C H h' -> Rd H h' v d -> Q v { s with heap:=h',toks:=tk }
theorem KD.now {C:Cx} {H:Addr -> Prop} {s:Shared} {Q:Value -> Shared -> Prop} {d:PyData} (k:KD C H s Q d) (g:GG C H s.heap) {v:Value} {tk:Nat} (r:Rd H s.heap v d):Q v { s with toks:=tk }:=k v s.heap tk (EX.refl _) g r
theorem KD.push {C:Cx} {H:Addr -> Prop} {s:Shared} {Q:Value -> Shared -> Prop} {d:PyData} (k:KD C H s Q d) (g:GG C H s.heap) (o:Obj) {v:Value} {tk:Nat} (r:Rd H (s.heap.push o) v d):Q v { s with heap:=s.heap.push o,toks:=tk }:=
 k v _ tk (Ext.ex (Ext.push o)) (g.same (Ext.push o)) r
theorem str_append (x y:Str):x ++ y = mkS (tl x ++ tl y):=by
 show (⟨x.cps ++ y.cps⟩:Str) = ⟨(x.cps.toList ++ y.cps.toList).toArray⟩
 simp
theorem big_line:big <= sizeLine:=by decide
theorem replicate_foldl (n:Nat) (a:Array Nat):∀ (b:Array Nat),((List.replicate n a).foldl (· ++ ·) b) = (b.toList ++ (List.replicate n a.toList).flatten).toArray:=by
 induction n with
 | zero => intro b; simp
 | succ n ih => intro b; rw [List.replicate_succ,List.foldl_cons,ih]; simp [List.replicate_succ]
theorem txt_mul (x:Str) (n:Int):Txt.mul x n = mkS (List.replicate n.toNat (tl x)).flatten:=by
 unfold Txt.mul
 by_cases h:n < 1
 ·rw [if_pos h,show n.toNat = 0 by lia]; rfl
 ·rw [if_neg h]
  by_cases h2:(n == 1 || x.length == 0) = true
  ·rw [if_pos h2]
   simp only [Bool.or_eq_true,beq_iff_eq] at h2
   rcases h2 with h2 | h2
   ·subst h2; simp [mkS]
   ·have e:tl x = []:=List.eq_nil_of_length_eq_zero h2
    have:x = mkS []:=by rw [<- e]
    rw [e,this]; simp [mkS]
  ·rw [if_neg h2,replicate_foldl]; simp
section
variable {C:Cx} {H:Addr -> Prop} {A:Around} {n:Nat} {s:Shared} {Ex:Value -> Shared -> Prop} {Q:Value -> Shared -> Prop}
theorem ok_append {x y:Str} (hx:SOk x) (hy:SOk y) (hz:(tl x).length + (tl y).length <= big):SOk (mkS (tl x ++ tl y)):=by
 refine .mk (fun c hc => ?_) (by rw [List.length_append]; exact hz)
 rcases List.mem_append.mp hc with h | h
 ·exact hx.all c h
 ·exact hy.all c h
theorem op_add_str {x y:Str} {t u:Tok} (hx:SOk x) (hy:SOk y) (hz:(tl x).length + (tl y).length <= big) (g:GG C H s.heap) (k:KD C H s Q (sx (tl x ++ tl y))) :
  wpAny (model C.prog C.w) A (binaryOp .Add (.str x t) (.str y u)) Q Ex s:=by
 refine SB.add (fun t' k' => ?_) (Nat.le_trans hz big_line)
 rw [str_append]
 exact k.now g (.str _ _ (ok_append hx hy hz))
theorem op_iadd_str {x y:Str} {t u:Tok} (hx:SOk x) (hy:SOk y) (hz:(tl x).length + (tl y).length <= big) (g:GG C H s.heap) (k:KD C H s Q (sx (tl x ++ tl y))) :
  wpAny (model C.prog C.w) A (inplaceOp .Add (.str x t) (.str y u)) Q Ex s:=by
 refine SB.iadd (fun t' k' => ?_) (Nat.le_trans hz big_line)
 rw [str_append]
 exact k.now g (.str _ _ (ok_append hx hy hz))
theorem new_list {vs:Array Value} {ds:List PyData} (g:GG C H s.heap) (r:Rds H s.heap vs.toList ds) (z:ds.length <= big):Rd H (s.heap.push { cls:=.type "list",data:=.seq vs }) (.ref s.heap.objs.size) (.list ds):=
 .list z g.new (Heap.get?_push_size _ rfl) rfl rfl (r.map (fun _ _ _ n => n) fun a o _ e => Heap.get?_push_of_some _ e)
theorem new_tuple {vs:Array Value} {ds:List PyData} (g:GG C H s.heap) (r:Rds H s.heap vs.toList ds) (z:ds.length <= big):Rd H (s.heap.push { cls:=.type "tuple",data:=.seq vs }) (.ref s.heap.objs.size) (.tuple ds):=
 .tuple z g.new (Heap.get?_push_size _ rfl) rfl rfl (r.map (fun _ _ _ n => n) fun a o _ e => Heap.get?_push_of_some _ e)
end
section
variable {C:Cx} {H:Addr -> Prop} {A:Around} {n:Nat} {s:Shared} {Ex:Value -> Shared -> Prop} {Q:Value -> Shared -> Prop}
theorem op_add_list {l b:Addr} {vs ws:Array Value} {x y:List PyData} (hl:s.heap.IsList l vs) (hb:s.heap.IsList b ws) (rx:Rds H s.heap vs.toList x) (ry:Rds H s.heap ws.toList y)
  (hz:x.length + y.length <= big) (g:GG C H s.heap) (k:KD C H s Q (.list (x ++ y))):wpAny (model C.prog C.w) A (binaryOp .Add (.ref l) (.ref b)) Q Ex s:=by
 obtain ⟨⟨cls,dd,data,sl⟩,ho,hc,n,hd⟩:=id hl
 obtain ⟨⟨cls2,dd2,data2,sl2⟩,ho2,hc2,n2,hd2⟩:=id hb
 simp only at hc hd hc2 hd2
 subst hc hd hc2 hd2
 have h1:=rx.length; have h2:=ry.length
 rw [Array.length_toList] at h1 h2
 refine concat_meets ⟨_,ho,rfl⟩ ⟨_,ho2,rfl⟩ noFill_list_add seq_list_add PySem.F.slot_list_add PySem.F.entry_list_add (PySem.F.args_list_add_2 _ _) (PyProof.Rows.list_addW l b vs ws n n2 dd dd2 sl sl2 (by have:=big_line; lia)) ⟨ho,ho2,?_⟩
 exact k.push g _ (new_list g (by rw [Array.toList_append]; exact rx.append ry) (by rw [List.length_append]; exact hz))
theorem mulOk_small {x:Str} {j:Int} (h1:(tl x).length <= 1000) (h2:j <= 1000) (h3:-1000 <= j):MulOk x j:=by
 have hx:x.length <= 1000:=h1
 refine ⟨?_,fun hj _ => ?_,fun hj _ => ?_⟩
 ·rw [decide_eq_false (by lia),decide_eq_false (by lia)]; rfl
 ·have h4:(9000000000000000:Int) <= (2 ^ 63 - 1) / j:=by
   rw [Int.le_ediv_iff_mul_le (by (omega))]
   lia
  lia
 ·unfold Builtin.Str.tooLong
  refine decide_eq_false ?_
  have h5:x.length * j.toNat <= 1000 * 1000:=Nat.mul_le_mul hx (by lia)
  show ¬ (sizeLine < _)
  rw [show sizeLine = 16777216 from rfl]; lia
theorem ite_some {α:Type} {c:Prop} [Decidable c] {a b:α} (h:(if c then some a else none) = some b):c /\ a = b:=by
 by_cases hc:c
 ·rw [if_pos hc] at h; cases h; exact ⟨hc,rfl⟩
 ·rw [if_neg hc] at h; cases h
theorem mulOk_int {x y:Int} (hc:y.natAbs < 2 ^ 64):IntMulOk x y:=by
 have:=PyProof.Rows.intBits_le hc
 have h':∀ i,Builtin.Int.intBits i <= 64 -> ¬ (Builtin.Int.intBits i > shortFactorBits):=fun i h => Nat.not_lt.mpr h
 unfold IntMulOk
 rw [decide_eq_false (h' _ this)]
 simp
theorem op_bin {op:Operator} {a b:Value} {x y z:PyData} (hz:binD op x y = some z) (ra:Rd H s.heap a x) (rb:Rd H s.heap b y) (aok:AOk A n) (g:GG C H s.heap) (k:KD C H s Q z) :
  wpAny (model C.prog C.w) A (binaryOp op a b) Q Ex s:=by
 cases op with
 | Add =>
  rcases sil_inv hz with ⟨p,rfl,h⟩ | ⟨p,rfl,h⟩ | ⟨p,rfl,h⟩
  ·refine xEA (sP_inv h) fun q r1 h => ?_
   obtain rfl:=r1
   obtain ⟨t,rfl,o1⟩:=ra.str_inv; obtain ⟨u,rfl,o2⟩:=rb.str_inv
   obtain ⟨hc,rfl⟩:=ite_some h
   exact op_add_str o1 o2 hc g k
  ·refine xEA (iP_inv h) fun q r1 h => ?_
   obtain rfl:=r1
   obtain ⟨t,rfl⟩:=ra.int_inv; obtain ⟨u,rfl⟩:=rb.int_inv
   cases h; exact add_int (k.now g (.int _ _))
  ·refine xEA (lP_inv h) fun q r1 h => ?_
   obtain rfl:=r1
   obtain ⟨l,vs,rfl,hsz,hl,rx⟩:=ra.list_inv; obtain ⟨l',ws,rfl,_,hl',ry⟩:=rb.list_inv
   obtain ⟨hc,rfl⟩:=ite_some h
   exact op_add_list hl hl' rx ry hc g k
 | Mult =>
  rcases sil_inv hz with ⟨p,rfl,h⟩ | ⟨p,rfl,h⟩ | ⟨p,rfl,h⟩
  ·refine xEA (iP_inv h) fun q r1 h => ?_
   obtain rfl:=r1
   obtain ⟨t,rfl,o1⟩:=ra.str_inv; obtain ⟨u,rfl⟩:=rb.int_inv
   obtain ⟨hc,rfl⟩:=ite_some h
   refine SB.mul (mulOk_small hc.1 hc.2.1 hc.2.2) fun t' k' => ?_
   rw [txt_mul]
   refine k.now g (.str _ _ (.mk (fun c hc' => ?_) ?_))
   ·refine xEA (List.mem_flatten.mp hc') fun l hl hcl => ?_
    rw [(List.mem_replicate.mp hl).2] at hcl
    exact o1.all c hcl
   ·rw [List.length_flatten,List.map_replicate,List.sum_replicate_nat]
    exact Nat.mul_le_mul (show _ <= 1000 by lia) (show _ <= 1000 from hc.1)
  ·refine xEA (iP_inv h) fun q r1 h => ?_
   obtain rfl:=r1
   obtain ⟨t,rfl⟩:=ra.int_inv; obtain ⟨u,rfl⟩:=rb.int_inv
   obtain ⟨hc,rfl⟩:=ite_some h
   exact mul_int (k.now g (.int _ _)) (mulOk_int hc.2)
  ·cases h
 | FloorDiv =>
  refine xEA (iP_inv hz) fun p r1 h => ?_
  obtain rfl:=r1
  refine xEA (iP_inv h) fun q r1 h => ?_
  obtain rfl:=r1
  obtain ⟨t,rfl⟩:=ra.int_inv; obtain ⟨u,rfl⟩:=rb.int_inv
  obtain ⟨hc,rfl⟩:=ite_some h
  exact PyProof.Rows.floordiv_int (Int.ne_of_gt hc.1) (k.now g (.int _ _)) (.inl (PyProof.noPylong_small (by (omega))))
 | Mod =>
  refine xEA (iP_inv hz) fun p r1 h => ?_
  obtain rfl:=r1
  refine xEA (iP_inv h) fun q r1 h => ?_
  obtain rfl:=r1
  obtain ⟨t,rfl⟩:=ra.int_inv; obtain ⟨u,rfl⟩:=rb.int_inv
  obtain ⟨hc,rfl⟩:=ite_some h
  exact PyProof.Rows.mod_int' (Int.ne_of_gt hc) (k.now g (.int _ _))
 | _ => cases hz
theorem eq_of {a b:Value} {x y:PyData} {r:Bool} (h:eqD x y = some r) (ra:Rd H s.heap a x) (rb:Rd H s.heap b y):min x.depth y.depth <= 64 /\ PyData.eqv x y = r:=by
 have X:∀ {x y:PyData},eqX x y = some r -> min x.depth y.depth <= 64 /\ PyData.eqv x y = r:=fun h => by
  obtain ⟨hc,rfl⟩:=ite_some h
  exact ⟨hc,rfl⟩
 cases x <;> try exact X h
 ·cases y <;> exact X h
 ·cases y <;> try exact X h
  cases h
  refine ⟨Nat.le_trans (Nat.min_le_left _ _) (show 0 <= 64 by decide),?_⟩
  rename_i x y
  have q:∀ x y:Str,(x == y) = (tl x == tl y):=fun x y => by
   by_cases e:x = y
   ·subst e; simp
   ·have:tl x ≠ tl y:=fun q => e (by rw [<- mkS_tl x,<- mkS_tl y,q])
    rw [beq_eq_false_iff_ne.mpr e,beq_eq_false_iff_ne.mpr this]
  exact q _ _
open Classical in
noncomputable def eOf (H:Addr -> Prop) (h:Heap) (y:PyData) (v:Value):Bool:=if q:∃ d,Rd H h v d then PyData.eqv q.choose y else false
theorem Rd.unique {h:Heap} {v:Value} {d d':PyData} (r:Rd H h v d) (r':Rd H h v d'):d = d':=by
 refine xAE (r.reads) fun c as q => ?_
 refine xAE (r'.reads) fun _ as' q' => ?_
 exact SeqAt.Reads.unique _ _ _ _ _ c q q'
theorem eOf_eq {h:Heap} {y d:PyData} {v:Value} (r:Rd H h v d):eOf H h y v = PyData.eqv d y:=by
 have q:∃ d,Rd H h v d:=⟨d,r⟩
 unfold eOf
 rw [dif_pos q,Rd.unique q.choose_spec r]
theorem any_of {b:Value} {y:PyData}:∀ {vs:List Value} {xs:List PyData} {r:Bool},anyEq y xs = some r -> Rds H s.heap vs xs -> Rd H s.heap b y -> A.units + 64 < cLine ->
  (∀ v ∈ vs,SeqAt.EqAt A s v b (eOf H s.heap y v)) /\ vs.any (eOf H s.heap y) = r:=by
 intro vs
 induction vs with
 | nil => intro xs r h rx rb hu; cases rx; cases h; exact ⟨by simp,rfl⟩
 | cons v vs ih =>
  intro xs r h rx rb hu
  cases rx with
  | cons x rest =>
   rename_i d ds
   refine xEA (Option.bind_eq_some_iff.mp h) fun p e1 h => ?_
   refine xEA (Option.map_eq_some_iff.mp h) fun q e2 r2 => ?_
   ·obtain rfl:=r2
    obtain ⟨he,hr⟩:=ih e2 rest rb hu
    obtain ⟨m,hm⟩:=eq_of e1 x rb
    refine xAE (x.reads) fun c1 as r1 => ?_
    refine xAE (rb.reads) fun c2 bs r2 => ?_
    refine ⟨fun u hu' => ?_,by rw [List.any_cons,hr,eOf_eq x,hm]⟩
    rcases List.mem_cons.mp hu' with rfl | hu'
    ·rw [eOf_eq x]; exact SeqAt.eqAt_reads _ _ A s _ b as bs r1 r2 c1 c2 (by lia)
    ·exact he u hu'
theorem isNone_ne {a:Value} {x:PyData} (ra:Rd H s.heap a x) (h:x ≠ .none):a ≠ .none:=by
 intro e; subst e; cases ra; exact h rfl
theorem contains_one {c:Nat} {y:Str}:Txt.contains y (mkS [c]) = (tl y).contains c:=by
 unfold Txt.contains
 have:=StrLaws.found_one y c
 rw [show (mkS [c]:Str) = ⟨#[c]⟩ from rfl,this]
 by_cases h:c ∈ y.cps.toList
 ·rw [decide_eq_true h]; exact (List.contains_iff_mem.mpr h).symm
 ·rw [decide_eq_false h]
  cases q:(tl y).contains c with
  | false => rfl
  | true => exact absurd (List.contains_iff_mem.mp q) h
theorem op_cmp {op:CmpOp} {a b:Value} {x y:PyData} {r:Bool} (hz:cmpD op x y = some r) (ra:Rd H s.heap a x) (rb:Rd H s.heap b y) (aok:AOk A (n + 1)) (g:GG C H s.heap) (h:Q (.bool r) s) :
  wpAny (model C.prog C.w) A (compareOp op a b) Q Ex s:=by
 have hu:=aok.room
 cases op with
 | Eq =>
  obtain ⟨m,rfl⟩:=eq_of hz ra rb
  refine xAE (ra.reads) fun c1 as r1 => ?_
  refine xAE (rb.reads) fun c2 bs r2 => ?_
  exact SeqAt.compareEq_reads r1 r2 c1 c2 (by lia) h
 | NotEq =>
  refine xEA (Option.map_eq_some_iff.mp hz) fun r' e r2 => ?_
  obtain rfl:=r2
  obtain ⟨m,rfl⟩:=eq_of e ra rb
  refine xAE (ra.reads) fun c1 as r1 => ?_
  refine xAE (rb.reads) fun c2 bs r2 => ?_
  exact SeqAt.compareNe_reads r1 r2 c1 c2 (by lia) h
 | Gt =>
  obtain ⟨p,rfl,hz⟩:=iP_inv hz; obtain ⟨q,rfl,hz⟩:=iP_inv hz
  obtain ⟨t,rfl⟩:=ra.int_inv; obtain ⟨u,rfl⟩:=rb.int_inv
  cases hz; exact gt_int h
 | In =>
  rcases sil_inv hz with ⟨p,rfl,hz⟩ | ⟨p,rfl,hz⟩ | ⟨p,rfl,hz⟩
  ·refine xEA (sP_inv hz) fun x r1 hz => ?_
   obtain rfl:=r1
   obtain ⟨t,rfl,o1⟩:=ra.str_inv; obtain ⟨u,rfl,o2⟩:=rb.str_inv
   refine xEA (oneL_inv hz) fun c hx hz => ?_
   cases hz
   refine SB.contains ?_
   have:x = mkS [c]:=by rw [<- hx]
   rw [this,contains_one]; exact h
  ·cases hz
  ·refine xEEAAA (rb.list_inv) fun l vs r2 hsz hl rx => ?_
   obtain rfl:=r2
   obtain ⟨he,hr⟩:=any_of (A:=A.in1) hz rx ra (by have:=aok.in1.room; exact this)
   refine SeqAt.in_listAt (eOf H s.heap _) hl (fun y hy => he y (by simpa using hy)) ?_
   rw [<- Array.any_toList,hr]; exact h
 | Is =>
  obtain ⟨hy,rfl⟩:=ite_some hz
  obtain rfl:=isNoneD_inv hy
  have:=rb.none_inv; subst this
  cases hxn:isNoneD x with
  | true =>
   obtain rfl:=isNoneD_inv hxn
   have:=ra.none_inv; subst this
   exact wpAny_is_plain rfl (by exact h)
  | false =>
   rw [hxn] at h
   exact is_none_ne (isNone_ne ra fun e => by rw [e] at hxn; cases hxn) h
 | IsNot =>
  obtain ⟨hy,rfl⟩:=ite_some hz
  obtain rfl:=isNoneD_inv hy
  have:=rb.none_inv; subst this
  cases hxn:isNoneD x with
  | true =>
   obtain rfl:=isNoneD_inv hxn
   have:=ra.none_inv; subst this
   exact wpAny_isNot_plain rfl (by exact h)
  | false =>
   rw [hxn] at h
   exact PyProof.Rows.isnot_none_ne (isNone_ne ra fun e => by rw [e] at hxn; cases hxn) h
 | _ => cases hz
end
theorem nIx_some {i:Int} {n k:Nat} (h:nIx i n = some k):k < n /\ ((0 <= i /\ k = i.toNat) \/ (i < 0 /\ -(n:Int) <= i /\ k = (i + n).toNat)):=by
 unfold nIx at h
 by_cases h0:0 <= i
 ·rw [if_pos h0] at h
  obtain ⟨hc,rfl⟩:=ite_some h
  exact ⟨by lia,.inl ⟨h0,rfl⟩⟩
 ·rw [if_neg h0] at h
  obtain ⟨hc,rfl⟩:=ite_some h
  exact ⟨by lia,.inr ⟨by lia,by lia,rfl⟩⟩
theorem seqIndex_of {i:Int} {n k:Nat} (h:nIx i n = some k):seqIndex? i n = some k:=by
 obtain ⟨h1,h2⟩:=nIx_some h
 unfold seqIndex?
 rcases h2 with ⟨a,rfl⟩ | ⟨a,b,rfl⟩
 ·simp only [show ¬ i < 0 by lia,if_false]
  rw [if_pos (by simp; lia)]
 ·simp only [a,if_true]
  rw [if_pos (by simp; lia)]
theorem nIx_lo {i:Int} {n k:Nat} (h:nIx i n = some k) (hn:n <= big):-(2 ^ 63) <= i:=by
 rcases (nIx_some h).2 with ⟨a,_⟩ | ⟨_,b,_⟩
 ·exact Int.le_trans (by decide) a
 ·exact Int.le_trans (Int.neg_le_neg (Int.le_trans (Int.ofNat_le.mpr hn) (by decide))) b
theorem nIx_hi {i:Int} {n k:Nat} (h:nIx i n = some k) (hn:n <= big):i < 2 ^ 63:=by
 obtain ⟨q,r⟩:=nIx_some h
 rcases r with ⟨a,e⟩ | ⟨a,_⟩
 ·rw [<- Int.toNat_of_nonneg a,<- e]
  exact Int.lt_of_lt_of_le (Int.ofNat_lt.mpr (Nat.lt_of_lt_of_le q hn)) (by decide)
 ·exact Int.lt_trans a (by decide)
section
variable {C:Cx} {H:Addr -> Prop} {A:Around} {n:Nat} {s:Shared} {Ex:Value -> Shared -> Prop} {Q:Value -> Shared -> Prop}
theorem subscripted_idx {sl:Expr} (h:isSl sl = false) (o i:Value):subscripted sl false o i = operate [o,i] (getItem o i):=by
 cases sl <;> first | rfl | (cases h; done)
theorem op_idx {value slice:Expr} {a b:Value} {x y z:PyData} (hs:isSl slice = false) (hz:idxD x y = some z) (ra:Rd H s.heap a x) (rb:Rd H s.heap b y) (g:GG C H s.heap) (k:KD C H s Q z) :
  wpAny (model C.prog C.w) A (subscriptTail value slice a b) Q Ex s:=by
 refine xEA (iP_inv hz) fun i r0 hz => ?_
 obtain rfl:=r0
 obtain ⟨u,rfl⟩:=rb.int_inv
 refine stl_el hz (fun x r0 hz => ?_) (fun xs r0 hz => ?_) fun xs r0 hz => ?_ <;> obtain rfl:=r0
 ·obtain ⟨t,rfl,o1⟩:=ra.str_inv
  have hc:=o1.2
  refine xEA (Option.map_eq_some_iff.mp hz) fun c hk r2 => ?_
  obtain rfl:=r2
  refine xEA (Option.bind_eq_some_iff.mp hk) fun j hj hc' => ?_
  have hx:Txt.charAt x i = some c:=by
   unfold Txt.charAt
   rw [show x.length = (tl x).length from rfl,seqIndex_of hj]
   show x.cps[j]? = _
   rw [<- Array.getElem?_toList]; exact hc'
  refine tail_any (typeIs_str s x t) F.slot_str_getitem.lookup ?_ (subscripted_idx hs _ _)
  refine SB.getItem ?_ (by rw [hx]; rfl) ?_
  ·unfold fitsSsize
   rw [decide_eq_false (Int.not_lt.mpr (nIx_lo hj hc)),decide_eq_false (Int.not_le.mpr (nIx_hi hj hc))]; rfl
  ·unfold Txt.item
   rw [hx]
   refine k.now g (.str (mkS [c]) _ (.mk (fun d hd => ?_) (show 1 <= big by decide)))
   rw [List.mem_singleton.mp hd]
   exact o1.all c (List.mem_of_getElem? hc')
 ·obtain ⟨l,vs,rfl,hsz,hl,rx⟩:=ra.list_inv
  have hc:=hsz
  refine xEA (Option.bind_eq_some_iff.mp hz) fun j hj hc' => ?_
  refine xEA (rx.get hc') fun v hv rv => ?_
  have hlen:=rx.length; rw [Array.length_toList] at hlen
  rw [Array.getElem?_toList] at hv
  have q2:=(nIx_some hj).2
  refine tail_any hl.typeIs F.slot_list_getitem.lookup ?_ (subscripted_idx hs _ _)
  rcases q2 with ⟨a,rfl⟩ | ⟨a,b,rfl⟩
  ·exact wpAny_getItem_list hl a (nIx_hi hj hc) hv (k.now g rv)
  ·exact wpAny_getItem_list_neg hl a (by rw [hlen]; exact b) (nIx_lo hj hc) (by rw [hlen]; exact hv) (k.now g rv)
 ·obtain ⟨l,vs,rfl,hsz,hl,rx⟩:=ra.tuple_inv
  have hc:=hsz
  refine xEA (Option.bind_eq_some_iff.mp hz) fun j hj hc' => ?_
  refine xEA (rx.get hc') fun v hv rv => ?_
  have hlen:=rx.length; rw [Array.length_toList] at hlen
  rw [Array.getElem?_toList] at hv
  have ht:IsTup s.heap l vs:=hl
  refine tail_any ht.typeIs F.slot_tuple_getitem.lookup ?_ (subscripted_idx hs _ _)
  exact PyProof.Rows.getItem_tuple ht (nIx_lo hj hc) (nIx_hi hj hc) (by rw [hlen]; exact seqIndex_of hj) hv (k.now g rv)
end
theorem cnt_eq (a b:Nat):(if (a:Int) < (b:Int) then ((b:Int) - a + 1 - 1) / 1 else 0).toNat = b - a:=by
 by_cases h:(a:Int) < (b:Int)
 ·rw [if_pos h,Int.add_sub_cancel,Int.ediv_one,Int.toNat_sub]
 ·rw [if_neg h,Nat.sub_eq_zero_of_le (Int.ofNat_le.mp (Int.not_lt.mp h))]; rfl
theorem range_pick {α:Type} (l:List α) (a b:Nat) (hb:b <= l.length):((sliceRange (a:Int) (b:Int) 1).filterMap (l[·]?)) = (l.take b).drop a:=by
 have e:sliceRange (a:Int) (b:Int) 1 = (List.range (b - a)).map fun k => a + k:=by
  unfold sliceRange
  simp only [show (1:Int) > 0 by decide,if_true]
  have hc:=cnt_eq a b
  rw [hc]
  apply List.map_congr_left; intro k _; (omega)
 rw [e]
 clear e
 induction hm:b - a generalizing a with
 | zero =>
  have:(l.take b).length <= a:=by rw [List.length_take]; exact Nat.le_trans (Nat.min_le_left _ _) (Nat.le_of_sub_eq_zero hm)
  rw [List.drop_eq_nil_of_le this]; rfl
 | succ m ih =>
  have hab:a < b:=Nat.lt_of_sub_eq_succ hm
  have hlt:a < l.length:=Nat.lt_of_lt_of_le hab hb
  rw [List.range_succ_eq_map,List.map_cons,List.filterMap_cons,Nat.add_zero,List.getElem?_eq_getElem hlt,List.map_map]
  have e2:((fun k => a + k) ∘ Nat.succ) = fun k => (a + 1) + k:=by funext k; exact (Nat.succ_add a k).symm
  rw [e2]
  simp only
  rw [ih (a + 1) (by rw [Nat.sub_succ,hm]; rfl)]
  have hlt2:a < (l.take b).length:=by rw [List.length_take]; exact Nat.lt_min.mpr ⟨hab,hlt⟩
  rw [List.drop_eq_getElem_cons hlt2,List.getElem_take]
theorem range_len (a b:Nat):(sliceRange (a:Int) (b:Int) 1).length = b - a:=by
 unfold sliceRange
 simp only [show (1:Int) > 0 by decide,if_true,List.length_map,List.length_range]
 exact cnt_eq a b
theorem clip_eq (i:Int) (n:Nat):(max 0 (min (if i < 0 then i + n else i) (n:Int))) = (nSl i n:Int) /\ nSl i n <= n:=by
 unfold nSl
 by_cases h:i < 0
 ·have hle:i + (n:Int) <= n:=Int.add_le_of_le_sub_right (by rw [Int.sub_self]; exact Int.le_of_lt h)
  rw [if_pos h,if_pos h,Int.min_eq_left hle,Int.ofNat_toNat,Int.max_comm]
  exact ⟨rfl,Int.toNat_le.mpr hle⟩
 ·obtain ⟨m,rfl⟩:=Int.eq_ofNat_of_zero_le (Int.not_lt.mp h)
  rw [if_neg h,if_neg h,Int.toNat_natCast]
  refine ⟨?_,Nat.min_le_right _ _⟩
  rcases Nat.le_total m n with h | h
  ·rw [Int.min_eq_left (Int.ofNat_le.mpr h),Nat.min_eq_left h,Int.max_eq_right (Int.natCast_nonneg _)]
  ·rw [Int.min_eq_right (Int.ofNat_le.mpr h),Nat.min_eq_right h,Int.max_eq_right (Int.natCast_nonneg _)]
theorem bounds_pick {α:Type} (l:List α) (lo hi:Option Int):((sliceRange (match lo with | none => 0 | some i => max 0 (min (if i < 0 then i + (l.length:Nat) else i) (l.length:Int))) (match hi with | none => (l.length:Int) | some i => max 0 (min (if i < 0 then i + (l.length:Nat) else i) (l.length:Int))) 1).filterMap (l[·]?)) = cut l lo hi:=by
 unfold cut
 cases lo with
 | none =>
  cases hi with
  | none => exact range_pick l 0 l.length (Nat.le_refl _)
  | some j => simp only [(clip_eq j l.length).1]; exact range_pick l 0 _ (clip_eq j l.length).2
 | some i =>
  cases hi with
  | none => simp only [(clip_eq i l.length).1]; exact range_pick l _ l.length (Nat.le_refl _)
  | some j => simp only [(clip_eq i l.length).1,(clip_eq j l.length).1]; exact range_pick l _ _ (clip_eq j l.length).2
theorem bounds_len {α:Type} (l:List α) (lo hi:Option Int):(sliceRange (match lo with | none => 0 | some i => max 0 (min (if i < 0 then i + (l.length:Nat) else i) (l.length:Int))) (match hi with | none => (l.length:Int) | some i => max 0 (min (if i < 0 then i + (l.length:Nat) else i) (l.length:Int))) 1).length = (cut l lo hi).length:=by
 unfold cut hiOf loOf
 rw [List.length_drop,List.length_take]
 cases lo with
 | none =>
  cases hi with
  | none => have:=range_len 0 l.length; simp only at this ⊢; rw [Nat.min_self]; exact this
  | some j => have:=range_len 0 (nSl j l.length); have q:=(clip_eq j l.length).2; simp only [(clip_eq j l.length).1]; rw [Nat.min_eq_left q]; exact this
 | some i =>
  cases hi with
  | none => have:=range_len (nSl i l.length) l.length; simp only [(clip_eq i l.length).1]; rw [Nat.min_self]; exact this
  | some j => have:=range_len (nSl i l.length) (nSl j l.length); have q:=(clip_eq j l.length).2; simp only [(clip_eq i l.length).1,(clip_eq j l.length).1]; rw [Nat.min_eq_left q]; exact this
theorem str_len (x:Str) (lo hi:Option Int):(Builtin.Str.strSliceIndices lo hi 1 x.length).length = (cut (tl x) lo hi).length:=by
 rw [<- bounds_len]
 unfold Builtin.Str.strSliceIndices
 cases lo <;> cases hi <;> rfl
theorem str_pick (x:Str) (lo hi:Option Int):((Builtin.Str.strSliceIndices lo hi 1 x.length).filterMap (x.cps[·]?)) = cut (tl x) lo hi:=by
 rw [<- bounds_pick]
 unfold Builtin.Str.strSliceIndices
 have e:(fun i:Nat => x.cps[i]?) = fun i:Nat => (tl x)[i]?:=by funext i; rw [Array.getElem?_toList]
 rw [e]
 cases lo <;> cases hi <;> rfl
theorem list_pick (items:Array Value) (lo hi:Option Int):(slicePick items lo hi none).toList = cut items.toList lo hi:=by
 rw [<- bounds_pick]
 unfold slicePick sliceBounds
 have e:(fun i:Nat => items[i]?) = fun i:Nat => items.toList[i]?:=by funext i; rw [Array.getElem?_toList]
 rw [e]
 cases lo <;> cases hi <;> rfl
theorem Rds.cut {H:Addr -> Prop} {h:Heap} {vs:List Value} {ds:List PyData} (r:Rds H h vs ds) (lo hi:Option Int):Rds H h (Mine.cut vs lo hi) (Mine.cut ds lo hi):=by
 unfold Mine.cut
 rw [r.length]
 exact (r.take _).drop _
theorem cut_all {α:Type} {l:List α} {lo hi:Option Int} (h:(cut l lo hi).length = l.length):cut l lo hi = l:=by
 unfold cut at h ⊢
 rw [List.length_drop,List.length_take] at h
 generalize hiOf hi l.length = b at h ⊢
 generalize loOf lo l.length = a at h ⊢
 by_cases hn:l.length = 0
 ·have:l = []:=List.eq_nil_of_length_eq_zero hn
  subst this; simp
 ·have hb:l.length <= b:=Nat.le_of_not_lt fun q => by
   have h1:min b l.length - a <= b:=sub_le_of (Nat.min_le_left _ _)
   rw [h] at h1; exact absurd q (Nat.not_lt_of_le h1)
  have ha:a = 0:=by
   rw [Nat.min_eq_right hb] at h
   cases a with
   | zero => rfl
   | succ a => exact absurd h (Nat.ne_of_lt (Nat.sub_lt (Nat.pos_of_ne_zero hn) (Nat.succ_pos a)))
  subst ha
  rw [List.take_of_length_le hb]; rfl
section
variable {C:Cx} {H:Addr -> Prop} {A:Around} {n:Nat} {s:Shared} {Ex:Value -> Shared -> Prop} {Q:Value -> Shared -> Prop}
noncomputable def PartOf (v:Value) (o:Option Int):Prop:=match o with | none => v = .none | some i => ∃ t,v = .int i t
theorem PartOf.isPart {v:Value} {o:Option Int} (h:PartOf v o):IsPart v o:=by
 cases o with
 | none => subst h; exact .none
 | some i => obtain ⟨t,rfl⟩:=h; exact .int i t
theorem PartOf.part {v:Value} {o:Option Int} (h:PartOf v o):∃ p:Option (Int × Tok),v = partValue p /\ p.map (·.1) = o:=by
 cases o with
 | none => exact ⟨none,h,rfl⟩
 | some i => obtain ⟨t,rfl⟩:=h; exact ⟨some (i,t),rfl,rfl⟩
theorem cut_len_le {α:Type} {l:List α} {lo hi:Option Int} {k:Nat} (h:l.length <= k):(cut l lo hi).length <= k:=by
 unfold cut
 exact drop_le (take_le h)
theorem op_slc {value:Expr} {l u:Option Expr} {p:Pos} {a vl vu:Value} {x z:PyData} {lo hi:Option Int} (hz:slcD x lo hi = some z) (ra:Rd H s.heap a x) (pl:PartOf vl lo) (pu:PartOf vu hi) (g:GG C H s.heap) (k:KD C H s Q z) :
  wpAny (model C.prog C.w) A (subscriptTail value (.Slice l u none p) a (.ref s.heap.objs.size)) Q Ex { s with heap:=s.heap.push { cls:=.type "slice",data:=.fields #[vl,vu,.none] } }:=by
 generalize ho:({ cls:=.type "slice",data:=.fields #[vl,vu,.none] }:Obj) = ob
 have hsl:(s.heap.push ob).get? s.heap.objs.size = some ob:=Heap.get?_push_size _ (by subst ho; rfl)
 refine stl_el hz (fun x r0 hz => ?_) (fun xs r0 hz => ?_) fun xs r0 hz => nomatch hz <;> obtain rfl:=r0
 ·refine xEA (ra.str_inv) fun t r1 o1 => ?_
  obtain rfl:=r1
  cases hz
  have hc:=o1.2
  refine xEA (pl.part) fun pl' e1 e1' => ?_
  refine xEA (pu.part) fun pu' e2 e2' => ?_
  refine tail_any (typeIs_str _ x t) F.slot_str_getitem.lookup (wpAny_getItem_str_slice (l:=pl') (u:=pu') (st:=none) ⟨ob,hsl,by subst ho; rfl,by subst ho; rw [e1,e2]; rfl⟩ rfl ?_) (ops:=[.ref s.heap.objs.size,.str x t]) rfl
  have hp:((slicePicked x pl' pu' none).filterMap (x.cps[·]?)) = cut (tl x) lo hi:=by
   unfold slicePicked
   rw [e1',e2']; exact str_pick x lo hi
  unfold sliceMade
  rw [hp]
  have okc:SOk (mkS (cut (tl x) lo hi)):=by
   refine .mk (fun c hc' => o1.all c (List.mem_of_mem_take (List.mem_of_mem_drop hc'))) ?_
   exact cut_len_le hc
  by_cases hw:((((none:Option (Int × Tok)).map (·.1)).getD 1 == (1:Int) && (slicePicked x pl' pu' none).length == x.length)) = true
  ·rw [if_pos hw]
   simp only [Bool.and_eq_true,beq_iff_eq] at hw
   have hlen:(cut (tl x) lo hi).length = (tl x).length:=by
    have q:=hw.2
    unfold slicePicked at q
    rw [e1',e2'] at q
    rw [<- str_len]; exact q
   have:=cut_all hlen
   rw [this] at k
   exact k.push g ob (.str x _ o1)
  ·rw [if_neg hw]
   refine ⟨?_,k.push g ob (.str (mkS (cut (tl x) lo hi)) _ okc)⟩
   show (cut (tl x) lo hi).length <= sizeLine
   exact cut_len_le (Nat.le_trans hc big_line)
 ·refine xEEAAA (ra.list_inv) fun l' vs r2 hc hl rx => ?_
  obtain rfl:=r2
  cases hz
  have hl':=hl.push ob
  have hlen:=rx.length; rw [Array.length_toList] at hlen
  refine tail_any (s:={ s with heap:=s.heap.push ob }) hl'.typeIs F.slot_list_getitem.lookup (wpAny_getItem_list_slice hl' (lo:=lo) (hi:=hi) (st:=none) (vl:=vl) (vu:=vu) (vs:=.none) ⟨ob,hsl,by subst ho; rfl,by subst ho; rfl⟩ pl.isPart pu.isPart .none (by simp) ?_ (by rw [hlen]; exact Nat.le_trans hc big_line)) (ops:=[.ref s.heap.objs.size,.ref l']) rfl
  refine k _ _ _ (Ext.ex ((Ext.push _).trans (Ext.push _))) (g.same ((Ext.push _).trans (Ext.push _))) ?_
  have g':=g.same (Ext.push ob)
  refine new_list g' ?_ ?_
  ·rw [list_pick]
   exact (rx.cut lo hi).map (fun _ _ _ n => n) fun a o _ e => Heap.get?_push_of_some _ e
  ·exact cut_len_le hc
end
theorem strs_of {H:Addr -> Prop} {h:Heap}:∀ {vs:List Value} {ds:List PyData} {l:List (List Nat)},Rds H h vs ds -> strsOf ds = some l -> ∃ ps:List (Str × Tok),vs = strValues ps /\ ps.map (fun p => tl p.1) = l /\ ∀ p ∈ ps,SOk p.1:=by
 intro vs
 induction vs with
 | nil => intro ds l r e; cases r; cases e; exact ⟨[],rfl,rfl,by simp⟩
 | cons v vs ih =>
  intro ds l r e
  cases r with
  | cons x r =>
   rename_i d ds
   refine xEA (sP_inv e) fun i r0 e => ?_
   obtain rfl:=r0
   ·refine xEA (Option.map_eq_some_iff.mp e) fun l' e' r2 => ?_
    obtain rfl:=r2
    refine xEA (x.str_inv) fun t r1 ok => ?_
    obtain rfl:=r1
    refine xEAA (ih r e') fun ps r1 r2 o => ?_
    obtain rfl:=r1
    obtain rfl:=r2
    exact ⟨(_,t) :: ps,rfl,rfl,fun p hp => by
     rcases List.mem_cons.mp hp with rfl | hp
     ·exact ok
     ·exact o p hp⟩
section
variable {C:Cx} {H:Addr -> Prop} {A:Around} {n:Nat} {s:Shared} {Ex:Value -> Shared -> Prop} {Q:Value -> Shared -> Prop}
theorem op_len {a:Value} {x z:PyData} (hz:lenD x = some z) (ra:Rd H s.heap a x) (g:GG C H s.heap) (k:KD C H s Q z):wpAny (model C.prog C.w) A (call (.builtin "len") [a]) Q Ex s:=by
 have hb:big = 1000000:=rfl
 refine stl_el hz (fun x r0 hz => ?_) (fun xs r0 hz => ?_) fun xs r0 hz => ?_ <;> obtain rfl:=r0
 ·refine xEA (ra.str_inv) fun t r1 o1 => ?_
  obtain rfl:=r1
  cases hz
  have hc:=o1.2
  have:x.length = (tl x).length:=rfl
  exact P.len_str (by lia) (k.now g (.int _ _))
 ·refine xEEAAA (ra.list_inv) fun l vs r2 hc hl rx => ?_
  obtain rfl:=r2
  cases hz
  have hlen:=rx.length; rw [Array.length_toList] at hlen
  refine PySem.Calls.call_len_list hl (by lia) ?_
  rw [hlen]; exact k.now g (.int _ _)
 ·refine xEEAAA (ra.tuple_inv) fun l vs r2 hc hl rx => ?_
  obtain rfl:=r2
  cases hz
  have hlen:=rx.length; rw [Array.length_toList] at hlen
  have ht:IsTup s.heap l vs:=hl
  refine PyProof.Rows.len_tuple ht (by lia) ?_
  rw [hlen]; exact k.now g (.int _ _)
theorem op_chr {a:Value} {x z:PyData} (hz:chrD x = some z) (ra:Rd H s.heap a x) (g:GG C H s.heap) (k:KD C H s Q z):wpAny (model C.prog C.w) A (call (.builtin "chr") [a]) Q Ex s:=by
 refine xEA (iP_inv hz) fun y r0 hz => ?_
 obtain rfl:=r0
 ·obtain ⟨t,rfl⟩:=ra.int_inv
  obtain ⟨hc,rfl⟩:=ite_some hz
  refine P.chr_of_int ?_ (k.now g (.str (mkS [_]) _ (.mk (fun c hc' => ?_) (show 1 <= big by decide))))
  ·rw [decide_eq_false (by lia),decide_eq_false (by lia)]; rfl
  ·rw [List.mem_singleton.mp hc']; lia
theorem op_neg {a:Value} {x z:PyData} (hz:negD x = some z) (ra:Rd H s.heap a x) (g:GG C H s.heap) (k:KD C H s Q z):wpAny (model C.prog C.w) A (unaryOp .USub a) Q Ex s:=by
 refine xEA (iP_inv hz) fun y r0 hz => ?_
 obtain rfl:=r0
 ·obtain ⟨t,rfl⟩:=ra.int_inv
  cases hz
  exact neg_int (k.now g (.int _ _))
theorem glued_join (sep:Str):∀ (ps:List Str),Builtin.Str.glued sep ps = mkS (joinL (tl sep) (ps.map tl)):=by
 intro ps
 unfold Builtin.Str.glued
 cases ps with
 | nil => rfl
 | cons p r =>
  show (⟨List.foldl (fun acc p => acc ++ sep.cps ++ p.cps) p.cps r⟩:Str) = _
  have:∀ (r:List Str) (acc:Array Nat),List.foldl (fun acc p => acc ++ sep.cps ++ p.cps) acc r = (joinL (tl sep) (acc.toList :: r.map tl)).toArray:=by
   intro r
   induction r with
   | nil => intro acc; simp [joinL]
   | cons q r ih =>
    intro acc
    rw [List.foldl_cons,ih]
    cases r with
    | nil => simp [joinL]
    | cons q' r' => simp [joinL,List.append_assoc]
  rw [this]; rfl
theorem joinL_len (sep:List Nat):∀ ps:List (List Nat),ps ≠ [] -> (joinL sep ps).length + sep.length = (ps.map (·.length)).sum + ps.length * sep.length
 | [],h => absurd rfl h
 | [x],_ => by simp [joinL]
 | x :: y :: r,_ => by
  have:=joinL_len sep (y :: r) (by simp)
  simp only [joinL,List.length_append,List.map_cons,List.sum_cons,List.length_cons] at this ⊢
  rw [Nat.succ_mul]; lia
theorem join_fold (sep:Str) (ps:List Str) (n:Nat):(ps.toArray.foldl (· + ·.length + sep.length) n) = n + ((ps.map tl).map (·.length)).sum + ps.length * (tl sep).length:=by
 rw [List.foldl_toArray']
 ·induction ps generalizing n with
  | nil => simp
  | cons p r ih =>
   rw [List.foldl_cons,ih]
   simp only [List.map_cons,List.sum_cons,List.length_cons,Nat.succ_mul]
   have h1:p.length = (tl p).length:=rfl
   have h2:sep.length = (tl sep).length:=rfl
   lia
 ·rfl
theorem mem_joinL {c:Nat} {sep:List Nat}:∀ {ps:List (List Nat)},c ∈ joinL sep ps -> c ∈ sep \/ ∃ p ∈ ps,c ∈ p
 | [],h => nomatch h
 | [x],h => .inr ⟨x,List.mem_cons_self,h⟩
 | x :: y :: r,h => by
  simp only [joinL,List.mem_append] at h
  rcases h with (h | h) | h
  ·exact .inr ⟨x,List.mem_cons_self,h⟩
  ·exact .inl h
  ·rcases mem_joinL h with h | ⟨p,hp,h⟩
   ·exact .inl h
   ·exact .inr ⟨p,List.mem_cons_of_mem _ hp,h⟩
theorem call_join {l:Addr} {sep:Str} {ps:List (Str × Tok)} {t:Tok} (hl:s.heap.IsList l (strValues ps).toArray) (h1:(joinL (tl sep) (ps.map fun p => tl p.1)).length <= big) (h2:ps.length <= big) (h3:(tl sep).length <= big)
  (h:∀ tk tk',Q (.str (mkS (joinL (tl sep) (ps.map fun p => tl p.1))) tk) { s with toks:=tk' }):wpAny (model C.prog C.w) A (call (.builtin "str.join") [.str sep t,.ref l]) Q Ex s:=by
 have hb:big = 1000000:=rfl
 have hl16:sizeLine = 16777216:=rfl
 have hm:(ps.map (·.1)).map tl = ps.map fun p => tl p.1:=by rw [List.map_map]; rfl
 have ht:Builtin.Str.tooLong ((ps.map (·.1)).toArray.foldl (· + ·.length + sep.length) 0) = false:=by
  rw [join_fold,hm]
  unfold Builtin.Str.tooLong
  refine decide_eq_false ?_
  by_cases hp:ps = []
  ·subst hp; simp
  ·have:=joinL_len (tl sep) (ps.map fun p => tl p.1) (by simpa using hp)
   simp only [List.length_map] at this ⊢
   show ¬ (sizeLine < _)
   lia
 refine call_meets slot_str_join (rfl:s.TypeIs (.str sep t) "str") entry_str_join (args_str_join_2 _ _) (meets_str_join_list sep t l ps ht) ⟨hl,?_⟩
 have hs:(Made.str (Builtin.Str.glued sep (ps.map (·.1)))).post (fun v s' => Q v s') s:=by
  rw [glued_join,hm]
  exact ⟨by show (joinL _ _).length <= sizeLine; lia,h _ _⟩
 unfold joinMade
 match ps,h,hs with
 | [],_,hs => exact hs
 | [p],h,_ => exact h p.2 s.toks
 | p :: q :: r,_,hs => exact hs
end
theorem takeWhile_drop {α:Type} (p:α -> Bool) (l:List α):l.drop (l.takeWhile p).length = l.dropWhile p:=by
 induction l with
 | nil => rfl
 | cons a r ih => by_cases h:p a = true <;> simp [List.takeWhile_cons,List.dropWhile_cons,h,ih]
theorem lstrip_eq (x:Str):Txt.lstrip x = mkS ((tl x).dropWhile isSp):=by
 have hl:stripLo Unicode.isSpace true x = ((tl x).takeWhile isSp).length:=rfl
 have hh:∀ lo,stripHi Unicode.isSpace false x lo = x.length:=fun _ => rfl
 unfold Txt.lstrip Txt.stripBy
 have hs:PySem.stripped Unicode.isSpace true false x = mkS ((tl x).dropWhile isSp):=by
  unfold PySem.stripped Builtin.Str.strSub
  rw [hh,hl]
  have:=extract_list x.cps ((tl x).takeWhile isSp).length x.length
  rw [show ((tl x).drop ((tl x).takeWhile isSp).length) = (tl x).dropWhile isSp from takeWhile_drop _ _] at this
  have e:((tl x).dropWhile isSp).length <= x.length - ((tl x).takeWhile isSp).length:=by
   rw [<- takeWhile_drop,List.length_drop]; exact Nat.le_refl _
  rw [List.take_of_length_le e] at this
  rw [<- mkS_tl ⟨_⟩,this]
 by_cases h:stripSame Unicode.isSpace true false x = true
 ·rw [if_pos h]
  unfold stripSame at h
  rw [hl] at h
  simp only [Bool.and_eq_true,beq_iff_eq] at h
  have:=takeWhile_drop isSp (tl x)
  rw [h.1] at this
  rw [<- this]; rfl
 ·rw [if_neg h,hs]
theorem rstrip_eq (x:Str):Txt.rstrip x = mkS ((tl x).reverse.dropWhile isSp).reverse:=by
 have hl:stripLo Unicode.isSpace false x = 0:=rfl
 have hh:stripHi Unicode.isSpace true x 0 = x.length - ((tl x).reverse.takeWhile isSp).length:=rfl
 have key:((tl x).reverse.dropWhile isSp).reverse = (tl x).take (x.length - ((tl x).reverse.takeWhile isSp).length):=by
  rw [<- takeWhile_drop,List.reverse_drop,List.reverse_reverse,List.length_reverse]; rfl
 unfold Txt.rstrip Txt.stripBy
 have hs:PySem.stripped Unicode.isSpace false true x = mkS ((tl x).reverse.dropWhile isSp).reverse:=by
  unfold PySem.stripped Builtin.Str.strSub
  rw [hl,hh]
  have:=extract_list x.cps 0 (x.length - ((tl x).reverse.takeWhile isSp).length)
  rw [List.drop_zero,Nat.sub_zero] at this
  rw [key,<- mkS_tl ⟨_⟩,this]
 by_cases h:stripSame Unicode.isSpace false true x = true
 ·rw [if_pos h]
  unfold stripSame at h
  rw [hl,hh] at h
  simp only [Bool.and_eq_true,beq_iff_eq] at h
  rw [key,h.2]
  show x = mkS ((tl x).take (tl x).length)
  rw [List.take_length]
 ·rw [if_neg h,hs]
theorem startswith_eq (x y:Str):Txt.startswith x y = (tl y).isPrefixOf (tl x):=by
 unfold Txt.startswith Builtin.Str.subAt
 have e:(x.cps.extract 0 (0 + y.length)) = ((tl x).take y.length).toArray:=by
  have:=extract_list x.cps 0 (0 + y.length)
  rw [List.drop_zero,Nat.sub_zero,Nat.zero_add] at this
  rw [Nat.zero_add]
  apply Array.ext'; exact this
 rw [e]
 have hy:y.cps = (tl y).toArray:=rfl
 rw [hy,Nat.zero_add]
 have hxl:x.length = (tl x).length:=rfl
 have hyl:y.length = (tl y).length:=rfl
 rw [hxl,hyl]
 by_cases h:(tl y).isPrefixOf (tl x) = true
 ·rw [h]
  obtain ⟨r,hr⟩:=List.isPrefixOf_iff_prefix.mp h
  rw [<- hr]; simp
 ·rw [Bool.not_eq_true] at h
  rw [h]
  rw [Bool.and_eq_false_iff]
  by_cases q:(tl y).length <= (tl x).length
  ·right
   rw [beq_eq_false_iff_ne]
   intro e2
   have e3:(tl x).take (tl y).length = tl y:=by have:=congrArg Array.toList e2; simpa using this
   have:(tl y).isPrefixOf (tl x) = true:=List.isPrefixOf_iff_prefix.mpr (by rw [<- e3]; exact List.take_prefix _ _)
   rw [this] at h; cases h
  ·left; exact decide_eq_false q
section
variable {C:Cx} {H:Addr -> Prop} {A:Around} {n:Nat} {s:Shared} {Ex:Value -> Shared -> Prop} {Q:Value -> Shared -> Prop}
theorem call_lstrip {x:Str} {t:Tok} (hx:(tl x).length <= big) (h:∀ t' k,Q (.str (mkS ((tl x).dropWhile isSp)) t') { s with toks:=k }):wpAny (model C.prog C.w) A (call (.builtin "str.lstrip") [.str x t]) Q Ex s:=by
 refine call_gives F.slot_str_lstrip (typeIs_str s x t) F.entry_str_lstrip (F.args_str_lstrip_1 _) (gives_str_lstrip x t) (post_val_or_made (fun _ => fits_stripped _ _ _ (Nat.le_trans hx big_line)) fun t' k => ?_)
 have:=h t' k
 rw [<- lstrip_eq] at this
 exact this
theorem call_rstrip {x:Str} {t:Tok} (hx:(tl x).length <= big) (h:∀ t' k,Q (.str (mkS ((tl x).reverse.dropWhile isSp).reverse) t') { s with toks:=k }):wpAny (model C.prog C.w) A (call (.builtin "str.rstrip") [.str x t]) Q Ex s:=by
 refine call_gives F.slot_str_rstrip (typeIs_str s x t) F.entry_str_rstrip (F.args_str_rstrip_1 _) (gives_str_rstrip x t) (post_val_or_made (fun _ => fits_stripped _ _ _ (Nat.le_trans hx big_line)) fun t' k => ?_)
 have:=h t' k
 rw [<- rstrip_eq] at this
 exact this
theorem call_startswith {x y:Str} {t u:Tok} (h:Q (.bool ((tl y).isPrefixOf (tl x))) s):wpAny (model C.prog C.w) A (call (.builtin "str.startswith") [.str x t,.str y u]) Q Ex s:=by
 refine call_gives F.slot_str_startswith (typeIs_str s x t) F.entry_str_startswith (F.args_str_startswith_2 _ _) (gives_str_startswith x y t u) ?_
 rw [<- startswith_eq] at h
 exact h
theorem parts_len (x:Str) (w:Nat):∀ (cuts:List Nat) (a:Nat),(StrLaws.partsFrom x w a cuts).length = cuts.length + 1
 | [],a => rfl
 | c :: r,a => congrArg Nat.succ (parts_len x w r _)
theorem strs_rds {l:List (Str × Tok)} {ws:List Str} (e:l.map (·.1) = ws) (ok:∀ w ∈ ws,SOk w) {h:Heap}:Rds H h (strValues l) (ws.map .str):=by
 induction l generalizing ws with
 | nil => cases e; exact .nil
 | cons p l ih => cases e; exact .cons (.str _ _ (ok _ List.mem_cons_self)) (ih rfl fun w m => ok w (List.mem_cons_of_mem _ m))
theorem ok_sub {x:Str} (o:SOk x) (i j:Nat):SOk (Builtin.Str.strSub x i j):=by
 refine ⟨strOk_iff.mpr fun c hc => ?_,Nat.le_trans (strSub_length_le ..) o.2⟩
 have:c ∈ ((tl x).drop i).take (j - i):=(StrLaws.strSub_toList x i j) ▸ hc
 exact o.all c (List.mem_of_mem_drop (List.mem_of_mem_take this))
theorem made_list {l:List (Str × Tok)} {ws:List Str} {tk:Nat} (e:l.map (·.1) = ws) (ok:∀ w ∈ ws,SOk w) (hl:ws.length <= big) (g:GG C H s.heap) (k:KD C H s Q (.list (ws.map .str))):Q (.ref s.heap.objs.size) { s with heap:=s.heap.push { cls:=.type "list",data:=.seq (strValues l).toArray },toks:=tk }:=
 k.push g _ (new_list g (strs_rds e ok) (by rw [List.length_map]; exact hl))
theorem op_split0 {x:Str} {t:Tok} (o:SOk x) (hx:(tl x).length <= 10000) (g:GG C H s.heap) (k:KD C H s Q (.list ((Txt.words x).map .str))):wpAny (model C.prog C.w) A (call (.builtin "str.split") [.str x t]) Q Ex s:=by
 have h1:x.length <= 10000:=hx
 have h2:(Builtin.Str.spaceWords x (x.length + 1)).length <= 10001:=Nat.le_trans (StrLaws.len_le_wsum _) (Nat.le_trans (StrLaws.sw_weight x).1 (Nat.succ_le_succ h1))
 refine call_meets F.slot_str_split (typeIs_str _ _ _) F.entry_str_split (F.args_str_split_1 _) (meets_str_split_space x t (Nat.le_trans h1 (by decide)) (Nat.le_trans h2 (by decide))) ?_
 cases hw:Builtin.Str.spaceWords x (x.length + 1) == [(0,x.length)] with
 | false =>
  have e:Txt.words x = PySem.wordsOf x:=if_neg (ne_true_of_eq_false hw)
  rw [e] at k
  rw [if_neg Bool.false_ne_true,strsFrom_eq]
  refine made_list (numbered_texts _ _) (fun w m => ?_) ?_ g k
  ·obtain ⟨p,_,rfl⟩:=List.mem_map.mp m; exact ok_sub o _ _
  ·rw [PySem.wordsOf,List.length_map]; exact Nat.le_trans h2 (by decide)
 | true =>
  have e:Txt.words x = [x]:=if_pos hw
  rw [e] at k
  exact made_list (l:=[(x,t)]) rfl (fun w m => by rw [List.mem_singleton.mp m]; exact o) (show 1 <= big by decide) g k
theorem op_split1 {x:Str} {t u:Tok} (o:SOk x) (hx:(tl x).length <= 10000) (g:GG C H s.heap) (k:KD C H s Q (.list ((Txt.split x (mkS [44])).map .str))):wpAny (model C.prog C.w) A (call (.builtin "str.split") [.str x t,.str (mkS [44]) u]) Q Ex s:=by
 have h1:x.length <= 10000:=hx
 have self:Txt.split x (mkS [44]) = [x] -> ∀ tk,Q (.ref s.heap.objs.size) { s with heap:=s.heap.push { cls:=.type "list",data:=.seq (strValues [(x,t)]).toArray },toks:=tk }:=fun e tk => by
  rw [e] at k
  exact made_list (l:=[(x,t)]) rfl (fun w m => by rw [List.mem_singleton.mp m]; exact o) (show 1 <= big by decide) g k
 have hn:(Builtin.Str.partsBetween x (Builtin.Str.occurrences x (mkS [44]) 0 x.length (x.length + 1)) (mkS [44]).length).length <= 10002:=by
  rw [StrLaws.partsBetween_eq,parts_len]
  exact Nat.succ_le_succ (Nat.le_trans (StrLaws.occ_length_le _ _ _ _ _) (Nat.succ_le_succ h1))
 cases h2:(decide (x.length < (mkS [44]).length) || decide (Builtin.Str.strKind x < Builtin.Str.strKind (mkS [44]))) with
 | false =>
  cases hf:(Builtin.Str.occurrences x (mkS [44]) 0 x.length (x.length + 1)).isEmpty with
  | false =>
   refine call_meets F.slot_str_split (typeIs_str _ _ _) F.entry_str_split (F.args_str_split_2 _ _) (meets_str_split_sep x (mkS [44]) t u h2 rfl hf (Nat.le_trans h1 (by decide)) (Nat.le_trans hn (by decide))) ?_
   show wants Q Ex _ { s with toks:=_,heap:=s.heap.push { cls:=.type "list",data:=.seq (strsFrom s.toks (Builtin.Str.partsBetween x (Builtin.Str.occurrences x (mkS [44]) 0 x.length (x.length + 1)) (mkS [44]).length)).toArray } }
   rw [strsFrom_eq]
   have e:Txt.split x (mkS [44]) = Builtin.Str.partsBetween x (Builtin.Str.occurrences x (mkS [44]) 0 x.length (x.length + 1)) (mkS [44]).length:=(if_neg (ne_true_of_eq_false h2)).trans (if_neg (ne_true_of_eq_false hf))
   rw [e] at k
   refine made_list (numbered_texts _ _) (fun w m => ?_) (Nat.le_trans hn (by decide)) g k
   obtain ⟨p,_,rfl⟩:=List.mem_map.mp m; exact ok_sub o _ _
  | true => exact call_meets F.slot_str_split (typeIs_str _ _ _) F.entry_str_split (F.args_str_split_2 _ _) (meets_str_split_not_found x (mkS [44]) t u h2 rfl hf) (self ((if_neg (ne_true_of_eq_false h2)).trans (if_pos hf)) _)
 | true => exact call_meets F.slot_str_split (typeIs_str _ _ _) F.entry_str_split (F.args_str_split_2 _ _) (meets_str_split_cannot_occur x (mkS [44]) t u h2) (self (if_pos h2) _)
theorem op_semi {x:Str} {t:Tok} {u:Nat} (hx:(tl x).length <= 10000) (hu:1 <= u) (k:∀ t' tk,Q (.str (semiD x) t') { s with toks:=tk }):wpAny (model C.prog C.w) A (call (.builtin "str.replace") [.str x t,.str (mkS [59]) u,.str (mkS [32]) (u + 1)]) Q Ex s:=
 SC.replace (Nat.ne_of_gt hu) (Nat.succ_ne_zero u) (Nat.ne_of_lt (Nat.lt_succ_self u)) (by decide) (by
  have h1:x.length <= 10000:=hx
  show x.length + (x.length + 1) * 1 <= 16777216
  lia) k
noncomputable def MethOk (C:Cx) (id:String) (f:Str -> List PyData -> Option PyData):Prop:=∀ (H:Addr -> Prop) (A:Around) (s:Shared) (Q Ex:Value -> Shared -> Prop) (x:Str) (t:Tok) (vs:List Value) (ys:List PyData) (z:PyData),SOk x -> f x ys = some z -> Rds H s.heap vs ys -> GG C H s.heap -> KD C H s Q z -> wpAny (model C.prog C.w) A (call (.builtin id) (.str x t :: vs)) Q Ex s
theorem methOk_nil {id:String} {f:Str -> Option PyData} (h:∀ (H:Addr -> Prop) (A:Around) (s:Shared) (Q Ex:Value -> Shared -> Prop) (x:Str) (t:Tok) (z:PyData),SOk x -> f x = some z -> GG C H s.heap -> KD C H s Q z -> wpAny (model C.prog C.w) A (call (.builtin id) [.str x t]) Q Ex s):MethOk C id fun x => nilL (f x):=by
 intro H A s Q Ex x t vs ys z o hz rs g k
 refine (nilL_inv hz).elim fun r0 hz => ?_
 subst r0
 cases rs
 exact h H A s Q Ex x t z o hz g k
theorem methOk_one {id:String} {f:Str -> PyData -> Option PyData} (h:∀ (H:Addr -> Prop) (A:Around) (s:Shared) (Q Ex:Value -> Shared -> Prop) (x:Str) (t:Tok) (v:Value) (y z:PyData),SOk x -> f x y = some z -> Rd H s.heap v y -> GG C H s.heap -> KD C H s Q z -> wpAny (model C.prog C.w) A (call (.builtin id) [.str x t,v]) Q Ex s):MethOk C id fun x => oneL (f x):=by
 intro H A s Q Ex x t vs ys z o hz rs g k
 refine xEA (oneL_inv hz) fun y r0 hz => ?_
 subst r0
 cases rs with
 | cons r rs => cases rs; exact h H A s Q Ex x t _ y z o hz r g k
theorem op_join {H:Addr -> Prop} {A:Around} {s:Shared} {Q Ex:Value -> Shared -> Prop} {x:Str} {t:Tok} {v:Value} {y z:PyData} (o:SOk x) (hz:lP (fun ys => (strsOf ys).bind fun ps => if (joinL (tl x) ps).length <= big then some (sx (joinL (tl x) ps)) else none) y = some z) (r:Rd H s.heap v y) (g:GG C H s.heap) (k:KD C H s Q z) :
  wpAny (model C.prog C.w) A (call (.builtin "str.join") [.str x t,v]) Q Ex s:=by
 refine xEA (lP_inv hz) fun y r0 hz => ?_
 subst r0
 refine xEEAAA (r.list_inv) fun l ws r2 hsz hl rx => ?_
 subst r2
 refine xEA (Option.bind_eq_some_iff.mp hz) fun ps e hz => ?_
 obtain ⟨hc,e4⟩:=ite_some hz
 rw [<- e4] at k
 refine xEAA (strs_of rx e) fun qs e1 r2 ok => ?_
 have e2:ws = (strValues qs).toArray:=by rw [<- e1]
 have hlen:=rx.length
 rw [<- r2] at hc k
 rw [e2] at hl hlen
 rw [Array.length_toList,List.size_toArray,strValues,List.length_map] at hlen
 refine call_join hl hc (hlen ▸ hsz) o.2 fun tk tk' => k.now g (.str _ _ (.mk (fun c hc' => ?_) hc))
 rcases mem_joinL hc' with h | ⟨p,hp,h⟩
 ·exact o.all c h
 ·obtain ⟨q,hq,r2⟩:=List.mem_map.mp hp
  exact (ok q hq).all c (r2 ▸ h)
theorem meth_all {m:Str} (h:methNames.contains m = true):∃ id,MethOk C id (fun x ys => methD m (.str x) ys) /\ Slot "str" m id /\ typeOf (.builtin id) = pure (.type "method_descriptor"):=by
 have:m ∈ methNames:=List.contains_iff_mem.mp h
 simp only [methNames,List.mem_cons,List.not_mem_nil,or_false] at this
 rcases this with rfl | rfl | rfl | rfl | rfl
 ·exact ⟨_,methOk_one fun H A s Q Ex x t v y z o hz r g k => op_join o hz r g k,F.slot_str_join,F.type_str_join⟩
 ·exact ⟨_,methOk_nil fun H A s Q Ex x t z o hz g k => call_rstrip o.2 fun t' k' => (Option.some.inj hz ▸ k).now g (.str _ _ (.mk (fun c hc' => o.all c (List.mem_reverse.mp ((List.dropWhile_sublist _).subset (List.mem_reverse.mp hc')))) (by
   rw [List.length_reverse]; exact Nat.le_trans (List.dropWhile_sublist _).length_le (by rw [List.length_reverse]; exact o.2)))),F.slot_str_rstrip,F.type_str_rstrip⟩
 ·exact ⟨_,methOk_nil fun H A s Q Ex x t z o hz g k => call_lstrip o.2 fun t' k' => (Option.some.inj hz ▸ k).now g (.str _ _ (.mk (fun c hc' => o.all c ((List.dropWhile_sublist _).subset hc')) (Nat.le_trans (List.dropWhile_sublist _).length_le o.2))),F.slot_str_lstrip,F.type_str_lstrip⟩
 ·exact ⟨_,methOk_one fun H A s Q Ex x t v y z o hz r g k => xEA (sP_inv hz) fun y r0 hz => xEA ((r0 ▸ r:Rd H s.heap v (.str y)).str_inv) fun u r1 o2 => r1 ▸ call_startswith ((Option.some.inj hz ▸ k).now g (.bool _)),F.slot_str_startswith,F.type_str_startswith⟩
 ·exact ⟨_,methOk_nil fun H A s Q Ex x t z o hz g k => op_split0 o (ite_some hz).1 g ((ite_some hz).2 ▸ k),F.slot_str_split,F.type_str_split⟩
end
set_option maxHeartbeats 2000000 in
theorem fmt1_meets (t u:Tok):∀ z:Str,z.length <= 1000000 -> Meets («str.__mod__» ⟨[.str ⟨#[34,37,115,34]⟩ t,.str z u],[]⟩) (fun _ R s => ∀ t' k,R (.ok (.ret (.str (("\"":Str) ++ z ++ ("\"":Str)) t'))) { s with toks:=k }):=by
 intro z hz
 apply KPc.meets_of
 intro prog w A s Q E h
 rw [KPc.entry_is_s]
 unfold Builtin.Str.percentFormat
 refine wpAny_bind (wpAny_isInstance (typeIs_str _ _ _) F.sub_str_tuple ?_)
 refine wpAny_bind (wpAny_of_eq (a:=some _) rfl ?_)
 refine wpAny_bind (KPc.wp_fills_str ?_)
 intro b
 refine wpAny_bind (wpAny_of_eq (a:=[.str z u]) rfl ?_)
 refine wpAny_bind ?_
 rw [KPc.range_list]
 refine KPc.turn (wpAny_of_eq (a:=.yield ([.str z u],({}:Str.Writer).add ⟨#[34]⟩ none,[37,115,34])) rfl ?_)
 refine KPc.turn (wpAny_bind (m:=holding [.str z u] _) (wpAny_holding (wpAny_of_eq (a:=(z.cps.toList,some (.str z u),false)) rfl (wpAny_of_eq (a:=.yield ([],(({}:Str.Writer).add ⟨#[34]⟩ none).add ⟨z.cps.toList.toArray⟩ none,[34])) rfl ?_))))
 refine KPc.after_str (KPc.good_add KPc.good0 (KPc.obj_none rfl)) hz (KPc.obj_none rfl) fun w2 g2 => ?_
 refine KPc.turn (wpAny_ite (KPc.ite_no (KPc.short_good g2 (by decide +kernel)) (wpAny_of_eq (a:=.yield ([],w2.add ⟨#[34]⟩ none,[])) rfl ?_)))
 refine KPc.after_add g2 (show (⟨#[34]⟩:Str) = "\"" from by decide +kernel) (KPc.obj_none rfl) fun w3 g3 => ?_
 refine KPc.turn (wpAny_ite (KPc.ite_no (KPc.short_good g3 (by decide +kernel)) (wpAny_of_eq (a:=.done ([],w3,[])) rfl ?_)))
 exact KPc.finish_ok g3 (by decide +kernel) (by rw [KPc.empty_app]; rfl) h
set_option maxHeartbeats 2000000 in
section
variable {C:Cx} {H:Addr -> Prop} {A:Around} {n:Nat} {s:Shared} {Ex:Value -> Shared -> Prop} {Q:Value -> Shared -> Prop}
theorem op_fmt1 {b:Value} {y z:PyData} {t:Tok} (hz:fmt1D y = some z) (rb:Rd H s.heap b y) (g:GG C H s.heap) (k:KD C H s Q z):wpAny (model C.prog C.w) A (binaryOp .Mod (.str ("\"%s\"":Str) t) b) Q Ex s:=by
 refine xEA (sP_inv hz) fun v r0 hz => ?_
 obtain rfl:=r0
 ·refine xEA (rb.str_inv) fun u r1 o1 => ?_
  obtain rfl:=r1
  obtain ⟨hc,rfl⟩:=ite_some hz
  refine KPc.mod_str (X':=⟨#[34,37,115,34]⟩) (T:=fun z => ("\"":Str) ++ z ++ ("\"":Str)) (by decide +kernel) o1.2 (fmt1_meets _ _) fun t' k' => ?_
  have e:("\"":Str) ++ v ++ ("\"":Str) = mkS (fmt1L (tl v)):=by
   rw [str_append,str_append]
   rfl
  show Q (.str (("\"":Str) ++ v ++ ("\"":Str)) t') _
  rw [e]
  refine k.now g (.str _ _ (.mk (fun c hc' => ?_) (by simp only [fmt1L,List.length_cons,List.length_append,List.length_nil]; (assumption))))
  simp only [fmt1L,List.mem_cons,List.mem_append,List.not_mem_nil,or_false] at hc'
  rcases hc' with (rfl | h) | rfl
  ·decide
  ·exact o1.all c h
  ·decide
end
theorem drop_cons {T:Array Nat} {q:Nat} (h:q < T.size):T.toList.drop q = T.getD q 0 :: T.toList.drop (q + 1):=by
 rw [List.drop_eq_getElem_cons (by simpa using h)]
 congr 1
 simp [Array.getD,h]
theorem drop_nil {T:Array Nat} {q:Nat} (h:T.size <= q):T.toList.drop q = []:=List.drop_eq_nil_of_le (by simpa using h)
theorem dotL_cons {f:Bool} {c:Nat} {r:List Nat}:dotL f (c :: r) = if c = 46 /\ f = true then 46 :: 46 :: dotL false r else c :: dotL (c == 10) r:=by rw [dotL]
theorem jescL_cons {c:Nat} {r:List Nat}:jescL (c :: r) = if c = 34 \/ c = 92 then 92 :: c :: jescL r else c :: jescL r:=by rw [jescL]
theorem subOut_eq {T:Array Nat} {P:Nat -> Bool} {w:Nat -> Nat} {gr:Nat -> List (Nat × Nat)} {item:Nat -> Nat -> List (Nat × Nat) -> Str} {f:Nat -> List Nat}
  (h0:∀ q,T.size <= q -> f q = []) (h1:∀ q,q < T.size -> P q = false -> f q = T.getD q 0 :: f (q + 1))
  (h2:∀ q,q < T.size -> P q = true -> 0 < w q /\ f q = tl (item q (q + w q) (gr q)) ++ f (q + w q)) :
  ∀ (n q:Nat),T.size - q < n -> subOut T (fun q => (firstAt P (T.size - q) q).map fun t => (t,t + w t,gr t)) item n q = f q:=by
 have rest:∀ (m q:Nat),T.size - q = m -> (∀ i,q <= i -> i < T.size -> P i = false) -> f q = T.toList.drop q:=by
  intro m
  induction m with
  | zero =>
   intro q hm _
   have hle:T.size <= q:=Nat.le_of_sub_eq_zero hm
   rw [h0 q hle,List.drop_eq_nil_of_le (show T.toList.length <= q from hle)]
  | succ m ih =>
   intro q hm hP
   have hq:q < T.size:=Nat.lt_of_sub_eq_succ hm
   rw [h1 q hq (hP q (Nat.le_refl _) hq),ih (q + 1) (by rw [Nat.sub_succ,hm]; rfl) fun i a b => hP i (Nat.le_of_succ_le a) b,drop_cons hq]
 have skip:∀ (m q t:Nat),t - q = m -> q <= t -> t <= T.size -> (∀ i,q <= i -> i < t -> P i = false) -> f q = (T.toList.drop q).take (t - q) ++ f t:=by
  intro m
  induction m with
  | zero =>
   intro q t hm hle _ _
   obtain rfl:q = t:=Nat.le_antisymm hle (Nat.le_of_sub_eq_zero hm)
   rw [Nat.sub_self]; rfl
  | succ m ih =>
   intro q t hm hle hT hP
   have hqt:q < t:=Nat.lt_of_sub_eq_succ hm
   have hq:q < T.size:=Nat.lt_of_lt_of_le hqt hT
   have hm2:t - (q + 1) = m:=by rw [Nat.sub_succ,hm]; rfl
   rw [h1 q hq (hP q (Nat.le_refl _) hqt),ih (q + 1) t hm2 hqt hT fun i a b => hP i (Nat.le_of_succ_le a) b]
   rw [drop_cons hq,hm,hm2,List.take_succ_cons,List.cons_append]
 intro n
 induction n with
 | zero => intro q h; exact absurd h (Nat.not_lt_zero _)
 | succ n ih =>
  intro q h
  unfold subOut
  by_cases hq:q < T.size
  ·have hsum:q + (T.size - q) = T.size:=Nat.add_sub_cancel' (Nat.le_of_lt hq)
   cases e:firstAt P (T.size - q) q with
   | none =>
    simp only [Option.map_none]
    exact (rest _ q rfl fun i a b => firstAt_none e i a (by rw [hsum]; exact b)).symm
   | some t =>
    refine xAAA (firstAt_some e) fun a b c d => ?_
    rw [hsum] at b
    simp only [Option.map_some]
    obtain ⟨w0,hf⟩:=h2 t b c
    have hd:T.size - (t + w t) < T.size - q:=Nat.sub_lt_sub_left hq (Nat.lt_of_le_of_lt a (Nat.lt_add_of_pos_right w0))
    rw [ih (t + w t) (Nat.lt_of_lt_of_le hd (Nat.le_of_lt_succ h)),skip _ q t rfl a (Nat.le_of_lt b) fun i x y => d i x y,hf,List.append_assoc]
  ·have hle:T.size <= q:=Nat.le_of_not_lt hq
   rw [Nat.sub_eq_zero_of_le hle]
   dsimp only [firstAt,Option.map_none]
   rw [h0 q hle,List.drop_eq_nil_of_le (show T.toList.length <= q from hle)]
theorem finds_of {code T:Array Nat} {g:Nat} {P:Nat -> Bool} {w:Nat -> Nat} {gr:Nat -> List (Nat × Nat)} {mk:Nat -> Array (Option Nat)} {lm li:Int} {k:Nat} (hk:k <= 1000000000000000000)
  (R:∀ s,s <= T.size -> RxRes k (Sre.forSearch code T g s T.size false) ((firstAt P (T.size - s) s).map fun t => (t,t + w t,mk t,lm,li)))
  (hw:∀ t,t < T.size -> P t = true -> 0 < w t /\ t + w t <= T.size) (hg:∀ t,Grps g (mk t) lm (gr t)) :
  Finds code T g (fun q => (firstAt P (T.size - q) q).map fun t => (t,t + w t,gr t)) where
 no:=fun q hq e => by
  refine ⟨k,hk,?_⟩
  have:=R q hq
  rw [Option.map_eq_none_iff] at e
  rw [e] at this; exact this
 yes:=fun q st hd gr' hq e => by
  refine xEA (Option.map_eq_some_iff.mp e) fun t e1 e2 => ?_
  refine xAAA (firstAt_some e1) fun a b c d => ?_
  cases e2
  obtain ⟨w1,w2⟩:=hw st (by lia) c
  refine ⟨a,by lia,w2,k,mk st,lm,li,hk,hg st,?_⟩
  have:=R q hq
  rw [e1] at this; exact this
noncomputable def itmE (T:Array Nat):Nat -> Nat -> List (Nat × Nat) -> Str
 | _,_,[(b,e)] => mkS (((T.toList.drop b).take (e - b)).take 1)
 | _,_,_ => mkS []
noncomputable def itmJ (T:Array Nat):Nat -> Nat -> List (Nat × Nat) -> Str
 | _,_,[(b,e)] => mkS (92 :: ((T.toList.drop b).take (e - b)).take 1)
 | _,_,_ => mkS []
section lists
variable {T:Array Nat}
theorem eolL_plain {c:Nat} {r:List Nat} (h:c ≠ 10) (h':c ≠ 13):eolL (c :: r) = c :: eolL r:=by
 rw [eolL]
 ·rw [if_neg (by lia)]
 ·intro r' a; exact absurd a h'
theorem eolL_two {r:List Nat}:eolL (13 :: 10 :: r) = 13 :: 10 :: eolL r:=by rw [eolL]
theorem eolL_one {c:Nat} {r:List Nat} (h:c = 10 \/ c = 13) (h':c = 13 -> ∀ r',r ≠ 10 :: r'):eolL (c :: r) = 13 :: 10 :: eolL r:=by
 rw [eolL]
 ·rw [if_pos h]
 ·intro r' a b; exact h' a r' b
theorem eol_out:subOut T (fun q => (firstAt (fun i => isEol (T.getD i 0)) (T.size - q) q).map fun t => (t,t + eolN T t,[])) (fun _ _ _ => mkS [13,10]) (T.size + 1) 0 = eolL T.toList:=by
 have:=subOut_eq (T:=T) (P:=fun i => isEol (T.getD i 0)) (w:=eolN T) (gr:=fun _ => []) (item:=fun _ _ _ => mkS [13,10]) (f:=fun q => eolL (T.toList.drop q))
  (fun q h => by rw [drop_nil h]; rfl) (fun q h hp => by
   show eolL (T.toList.drop q) = _
   rw [drop_cons h]
   unfold isEol at hp
   simp only [Bool.or_eq_false_iff,beq_eq_false_iff_ne] at hp
   exact eolL_plain hp.1 hp.2) (fun q h hp => by
   unfold isEol at hp
   simp only [Bool.or_eq_true,beq_iff_eq] at hp
   show 0 < eolN T q /\ eolL (T.toList.drop q) = _
   unfold eolN
   by_cases hc:T.getD q 0 = 13 /\ q + 1 < T.size /\ T.getD (q + 1) 0 = 10
   ·rw [if_pos hc]
    refine ⟨by decide,?_⟩
    rw [drop_cons h,drop_cons hc.2.1,hc.1,hc.2.2,eolL_two]; rfl
   ·rw [if_neg hc]
    refine ⟨by decide,?_⟩
    rw [drop_cons h,eolL_one hp]
    ·rfl
    ·intro a r' b
     refine hc ⟨a,?_,?_⟩
     ·apply Classical.byContradiction; intro n
      rw [drop_nil (by (exact Nat.le_of_not_lt (by assumption)))] at b; cases b
     ·have:q + 1 < T.size:=by
       apply Classical.byContradiction; intro n
       rw [drop_nil (by (exact Nat.le_of_not_lt (by assumption)))] at b; cases b
      rw [drop_cons this] at b
      exact (List.cons.inj b).1) (T.size + 1) 0 (by (exact Nat.lt_succ_self _))
 exact this
theorem dot_out:subOut T (fun q => (firstAt (dotAt T) (T.size - q) q).map fun t => (t,t + 1,[])) (fun _ _ _ => mkS [46,46]) (T.size + 1) 0 = dotL true T.toList:=by
 have:=subOut_eq (T:=T) (P:=dotAt T) (w:=fun _ => 1) (gr:=fun _ => []) (item:=fun _ _ _ => mkS [46,46]) (f:=fun q => dotL (q == 0 || T.getD (q - 1) 0 == 10) (T.toList.drop q))
  (fun q h => by rw [drop_nil h]; rfl) (fun q h hp => by
   show dotL _ (T.toList.drop q) = _
   rw [drop_cons h]
   unfold dotAt at hp
   rw [decide_eq_true h] at hp
   rw [dotL_cons,if_neg (fun hc => by
    have h1:(T.getD q 0 == 46) = true:=by rw [hc.1]; rfl
    rw [h1] at hp
    simp only [Bool.true_and] at hp
    have h2:=hc.2
    simp only [Bool.or_eq_true,beq_iff_eq] at h2
    rcases h2 with h2 | h2
    ·rw [h2] at hp; cases hp
    ·rw [h2] at hp; simp at hp)]
   rw [show q + 1 - 1 = q by (simp +arith)]
   have e1:(q + 1 == 0) = false:=by simp
   rw [e1]; rfl) (fun q h hp => by
   refine ⟨by decide,?_⟩
   show dotL _ (T.toList.drop q) = _
   unfold dotAt at hp
   rw [decide_eq_true h] at hp
   simp only [Bool.true_and,Bool.and_eq_true,beq_iff_eq] at hp
   rw [drop_cons h,dotL_cons,if_pos ⟨hp.1,hp.2⟩,show q + 1 - 1 = q by (simp +arith)]
   have e1:(q + 1 == 0) = false:=by simp
   have e2:(T.getD q 0 == 10) = false:=by rw [hp.1]; rfl
   rw [e1,e2]; rfl) (T.size + 1) 0 (by (exact Nat.lt_succ_self _))
 exact this
theorem jesc_out:subOut T (fun q => (firstAt (fun i => isSome34 (T.getD i 0)) (T.size - q) q).map fun t => (t,t + 1,[(t,t + 1)])) (itmJ T) (T.size + 1) 0 = jescL T.toList:=by
 have:=subOut_eq (T:=T) (P:=fun i => isSome34 (T.getD i 0)) (w:=fun _ => 1) (gr:=fun t => [(t,t + 1)]) (item:=itmJ T)
  (f:=fun q => jescL (T.toList.drop q))
  (fun q h => by rw [drop_nil h]; rfl) (fun q h hp => by
   show jescL (T.toList.drop q) = _
   rw [drop_cons h]
   unfold isSome34 at hp
   simp only [Bool.or_eq_false_iff,beq_eq_false_iff_ne] at hp
   rw [jescL_cons,if_neg (by lia)]) (fun q h hp => by
   refine ⟨by decide,?_⟩
   unfold isSome34 at hp
   simp only [Bool.or_eq_true,beq_iff_eq] at hp
   show jescL (T.toList.drop q) = _
   show _ = tl (mkS (92 :: ((T.toList.drop q).take (q + 1 - q)).take 1)) ++ jescL (T.toList.drop (q + 1))
   rw [show q + 1 - q = 1 by (simp +arith),drop_cons h,jescL_cons,if_pos hp]
   dsimp [tl_mkS]) (T.size + 1) 0 (by (exact Nat.lt_succ_self _))
 exact this
theorem escL_step {c e:Nat} {r:List Nat} (h:c = 92 /\ e ≠ 10):escL (c :: e :: r) = e :: escL r:=by rw [escL,if_pos h]
theorem escL_skip {c:Nat} {r:List Nat} (h:∀ e r',r = e :: r' -> ¬ (c = 92 /\ e ≠ 10)):escL (c :: r) = c :: escL r:=by
 cases r with
 | nil => rfl
 | cons e r' => rw [escL,if_neg (h e r' rfl)]
theorem esc_out:subOut T (fun q => (firstAt (escAt T) (T.size - q) q).map fun t => (t,t + 2,[(t + 1,t + 2)])) (itmE T) (T.size + 1) 0 = escL T.toList:=by
 have:=subOut_eq (T:=T) (P:=escAt T) (w:=fun _ => 2) (gr:=fun t => [(t + 1,t + 2)]) (item:=itmE T)
  (f:=fun q => escL (T.toList.drop q))
  (fun q h => by rw [drop_nil h]; rfl) (fun q h hp => by
   show escL (T.toList.drop q) = _
   rw [drop_cons h]
   refine escL_skip fun e r' er hc => ?_
   have h1:q + 1 < T.size:=by
    apply Classical.byContradiction; intro n
    rw [drop_nil (by (exact Nat.le_of_not_lt (by assumption)))] at er; cases er
   rw [drop_cons h1] at er
   have he:=(List.cons.inj er).1
   unfold escAt at hp
   rw [decide_eq_true h1] at hp
   have h2:(T.getD q 0 == 92) = true:=by rw [hc.1]; rfl
   have h3:(T.getD (q + 1) 0 != 10) = true:=by rw [he]; simpa using hc.2
   rw [h2,h3] at hp; cases hp) (fun q h hp => by
   refine ⟨by decide,?_⟩
   unfold escAt at hp
   simp only [Bool.and_eq_true,decide_eq_true_eq,beq_iff_eq,bne_iff_ne] at hp
   show escL (T.toList.drop q) = _
   have h1:q + 1 < T.size:=hp.1.1
   show _ = tl (mkS (((T.toList.drop (q + 1)).take (q + 2 - (q + 1))).take 1)) ++ escL (T.toList.drop (q + 2))
   rw [show q + 2 - (q + 1) = 1 by (simp +arith),drop_cons h,drop_cons h1,escL_step ⟨hp.1.2,hp.2⟩]
   dsimp [tl_mkS]) (T.size + 1) 0 (by (exact Nat.lt_succ_self _))
 exact this
end lists
theorem nobool_mat:typeLookup (.type "re.Match") "__bool__" = pure none:=by rw [typeLookup_type,builtinLookup_eq_fast]; kernel_rfl
theorem nolen_mat:typeLookup (.type "re.Match") "__len__" = pure none:=by rw [typeLookup_type,builtinLookup_eq_fast]; kernel_rfl
theorem eolL_len:∀ l:List Nat,(eolL l).length <= 2 * l.length
 | [] => Nat.le_refl _
 | c :: r => by
  have key:∀ r':List Nat,r = 10 :: r' -> c = 13 -> (eolL (c :: r)).length <= 2 * (c :: r).length:=fun r' a b => by
   subst a b
   rw [eolL_two]
   have:=eolL_len r'
   simp only [List.length_cons]; lia
  by_cases h:c = 13 /\ ∃ r',r = 10 :: r'
  ·obtain ⟨b,r',a⟩:=h; exact key r' a b
  ·by_cases h2:c = 10 \/ c = 13
   ·rw [eolL_one h2 fun a r' b => h ⟨a,r',b⟩]
    have:=eolL_len r
    simp only [List.length_cons]; lia
   ·rw [eolL_plain (by lia) (by lia)]
    have:=eolL_len r
    simp only [List.length_cons]; lia
termination_by l => l.length
decreasing_by all_goals (subst_vars; simp; try (exact Nat.le_succ _))
theorem eolL_mem:∀ (l:List Nat) {d:Nat},d ∈ eolL l -> d ∈ l \/ d = 13 \/ d = 10
 | [],_,h => nomatch h
 | c :: r,d,hd => by
  by_cases h:c = 13 /\ ∃ r',r = 10 :: r'
  ·refine xAE (h) fun b r' a => ?_
   subst a b
   rw [eolL_two] at hd
   rcases List.mem_cons.mp hd with e | hd
   ·exact .inr (.inl e)
   ·rcases List.mem_cons.mp hd with e | hd
    ·exact .inr (.inr e)
    ·rcases eolL_mem r' hd with q | q
     ·exact .inl (List.mem_cons_of_mem _ (List.mem_cons_of_mem _ q))
     ·exact .inr q
  ·by_cases h2:c = 10 \/ c = 13
   ·rw [eolL_one h2 fun a r' b => h ⟨a,r',b⟩] at hd
    rcases List.mem_cons.mp hd with e | hd
    ·exact .inr (.inl e)
    ·rcases List.mem_cons.mp hd with e | hd
     ·exact .inr (.inr e)
     ·rcases eolL_mem r hd with q | q
      ·exact .inl (List.mem_cons_of_mem _ q)
      ·exact .inr q
   ·rw [eolL_plain (by lia) (by lia)] at hd
    rcases List.mem_cons.mp hd with e | hd
    ·exact .inl (e ▸ List.mem_cons_self)
    ·rcases eolL_mem r hd with q | q
     ·exact .inl (List.mem_cons_of_mem _ q)
     ·exact .inr q
termination_by l => l.length
decreasing_by all_goals (subst_vars; simp; try (exact Nat.le_succ _))
theorem dotL_len:∀ (l:List Nat) (f:Bool),(dotL f l).length <= 2 * l.length
 | [],_ => Nat.le_refl _
 | c :: r,f => by
  rw [dotL_cons]
  split
  ·have:=dotL_len r false; simp only [List.length_cons]; lia
  ·have:=dotL_len r (c == 10); simp only [List.length_cons]; lia
theorem dotL_mem:∀ (l:List Nat) (f:Bool) {d:Nat},d ∈ dotL f l -> d ∈ l \/ d = 46
 | [],_,_,h => nomatch h
 | c :: r,f,d,hd => by
  rw [dotL_cons] at hd
  split at hd
  ·rcases List.mem_cons.mp hd with e | hd
   ·exact .inr e
   ·rcases List.mem_cons.mp hd with e | hd
    ·exact .inr e
    ·exact (dotL_mem r _ hd).imp (List.mem_cons_of_mem _) id
  ·rcases List.mem_cons.mp hd with e | hd
   ·exact .inl (e ▸ List.mem_cons_self)
   ·exact (dotL_mem r _ hd).imp (List.mem_cons_of_mem _) id
theorem jescL_len:∀ (l:List Nat),(jescL l).length <= 2 * l.length
 | [] => Nat.le_refl _
 | c :: r => by
  rw [jescL_cons]
  have:=jescL_len r
  split <;> simp only [List.length_cons] <;> lia
theorem jescL_mem:∀ (l:List Nat) {d:Nat},d ∈ jescL l -> d ∈ l \/ d = 92
 | [],_,h => nomatch h
 | c :: r,d,hd => by
  rw [jescL_cons] at hd
  split at hd
  ·rcases List.mem_cons.mp hd with e | hd
   ·exact .inr e
   ·rcases List.mem_cons.mp hd with e | hd
    ·exact .inl (e ▸ List.mem_cons_self)
    ·exact (jescL_mem r hd).imp (List.mem_cons_of_mem _) id
  ·rcases List.mem_cons.mp hd with e | hd
   ·exact .inl (e ▸ List.mem_cons_self)
   ·exact (jescL_mem r hd).imp (List.mem_cons_of_mem _) id
theorem escL_sub:∀ (l:List Nat),(escL l).Sublist l
 | [] => .slnil
 | [c] => List.Sublist.refl _
 | c :: e :: r => by
  rw [escL]
  split
  ·exact .cons _ (.cons_cons _ (escL_sub r))
  ·exact .cons_cons _ (escL_sub (e :: r))
section
variable {C:Cx} {H:Addr -> Prop} {A:Around} {n:Nat} {s:Shared} {Ex:Value -> Shared -> Prop} {Q:Value -> Shared -> Prop}
theorem isEmpty_rds {vs:Array Value} {xs:List PyData} (r:Rds H s.heap vs.toList xs):(!vs.isEmpty) = !xs.isEmpty:=by
 rw [<- Array.isEmpty_toList]
 generalize vs.toList = l at r
 cases r with
 | nil => rfl
 | cons => rfl
theorem op_truthy {a:Value} {x:PyData} {Q:Bool -> Shared -> Prop} (ra:Rd H s.heap a x) (h:∀ tk,Q (truth x) { s with toks:=tk }):wpAny (model C.prog C.w) A (truthy a) Q Ex s:=by
 have hb:big = 1000000:=rfl
 cases ra with
 | none => exact fun _ _ _ => h s.toks
 | bool b => exact wpAny_truthy_bool (h s.toks)
 | int i t => exact PyProof.Rows.truthy_int (h s.toks)
 | str x t k =>
  refine P.truthy_str ?_ ?_
  ·have:=k.2
   have e:x.length = (tl x).length:=rfl
   lia
  ·have e:((x.length:Int) != 0) = truth (.str x):=by
    show _ = !(tl x).isEmpty
    have e:x.length = (tl x).length:=rfl
    rw [e]
    cases tl x with
    | nil => rfl
    | cons c r =>
     rw [bne_iff_ne.mpr]
     ·rfl
     ·simp only [List.length_cons]; lia
   rw [e]; exact h _
 | list z n e c q r =>
  have hlen:=r.length; rw [Array.length_toList] at hlen
  refine wpAny_truthy_list ⟨_,e,c,_,q⟩ (by lia) ?_
  rw [isEmpty_rds r]; exact h _
 | tuple z n e c q r =>
  have hlen:=r.length; rw [Array.length_toList] at hlen
  refine PyProof.Rows.truthy_tuple ⟨_,e,c,_,q⟩ (by lia) ?_
  rw [isEmpty_rds r]; exact h _
theorem truthy_match {a:Addr} {x:Str} {st hd:Nat} {gr:List (Nat × Nat)} {Q:Bool -> Shared -> Prop} (hm:IsMatch s.heap a x st hd gr) (h:Q true s):wpAny (model C.prog C.w) A (truthy (.ref a)) Q Ex s:=by
 have hT:=hm.type
 unfold truthy
 first
  | refine wpAny_bind (wpAny_callSpecial?_none (name:=Str.ofString "__bool__") hT nobool_mat ?_)
  | refine wpAny_bind (wpAny_pure (wpAny_bind (wpAny_callSpecial?_none (name:=Str.ofString "__bool__") hT nobool_mat ?_)))
 first
  | refine wpAny_bind (wpAny_specialOf (name:=Str.ofString "__len__") hT nolen_mat ?_)
  | refine wpAny_bind (wpAny_pure (wpAny_bind (wpAny_specialOf (name:=Str.ofString "__len__") hT nolen_mat ?_)))
 exact wpAny_pure h
theorem eolN_cases (T:Array Nat) (i:Nat):(eolN T i = 2 /\ i + 1 < T.size) \/ eolN T i = 1:=by
 unfold eolN
 by_cases h:T.getD i 0 = 13 /\ i + 1 < T.size /\ T.getD (i + 1) 0 = 10
 ·rw [if_pos h]; exact .inl ⟨rfl,h.2.1⟩
 ·rw [if_neg h]; exact .inr rfl
theorem op_subS {p:Pat} {a b:Value} {pa:Addr} {x y z:PyData} (hz:subSD p y x = some z) (hp:IsPat s.heap pa p.code p.groups) (rb:Rd H s.heap b y) (ra:Rd H s.heap a x) (g:GG C H s.heap) (k:KD C H s Q z) :
  wpAny (model C.prog C.w) A (call (.builtin "re.Pattern.sub") [.ref pa,b,a]) Q Ex s:=by
 have hb:big = 1000000:=rfl
 refine xEA (sP_inv hz) fun y r0 hq1 => ?_
 obtain rfl:=r0
 replace hz:=hq1
 refine xEA (sP_inv hz) fun x r0 hq2 => ?_
 obtain rfl:=r0
 replace hz:=hq2
 ·refine xEA (rb.str_inv) fun t r1 o1 => ?_
  obtain rfl:=r1
  refine xEA (ra.str_inv) fun u r1 o2 => ?_
  obtain rfl:=r1
  by_cases hc:(tl x).length <= 10000
  ·rw [if_pos hc] at hz
   refine xEA (Option.map_eq_some_iff.mp hz) fun l e r2 => ?_
   obtain rfl:=r2
   have hx:x.cps.size <= 10000:=hc
   cases p <;> try (cases e; done)
   case eol =>
    obtain ⟨hy,rfl⟩:=ite_some e
    have hy':y = mkS [13,10]:=by rw [<- hy]
    subst hy'
    refine call_sub_lit hx hp (by simp [mkS]) (by decide) (finds_of (k:=200) (w:=eolN x.cps) (gr:=fun _ => []) (mk:=fun _ => #[]) (lm:=-1) (li:=-1) (by decide) (fun q hq => eol_search hq) (fun t ht _ => ?_) fun _ => .zero) fun h' tk tk' he => ?_
    ·rcases eolN_cases x.cps t with ⟨h,h'⟩ | h <;> rw [h] <;> lia
    ·rw [eol_out]
     refine k _ _ _ (Ext.ex he) (g.same he) (.str _ _ (.mk (fun c hc' => ?_) ?_))
     ·rcases eolL_mem _ hc' with h | h | h
      ·exact o2.all c h
      ·subst h; decide
      ·subst h; decide
     ·have:=eolL_len x.cps.toList
      have e2:x.cps.toList.length = (tl x).length:=rfl
      lia
   case dot =>
    obtain ⟨hy,rfl⟩:=ite_some e
    have hy':y = mkS [46,46]:=by rw [<- hy]
    subst hy'
    refine call_sub_lit hx hp (by simp [mkS]) (by decide) (finds_of (k:=(x.cps.size + 1) * 3 + 200) (w:=fun _ => 1) (gr:=fun _ => []) (mk:=fun _ => #[]) (lm:=-1) (li:=-1) (by lia) (fun q hq => dot_search hq) (fun t ht _ => ⟨by decide,by (assumption)⟩) fun _ => .zero) fun h' tk tk' he => ?_
    rw [dot_out]
    refine k _ _ _ (Ext.ex he) (g.same he) (.str _ _ (.mk (fun c hc' => ?_) ?_))
    ·rcases dotL_mem _ _ hc' with h | h
     ·exact o2.all c h
     ·subst h; decide
    ·have:=dotL_len x.cps.toList true
     have e2:x.cps.toList.length = (tl x).length:=rfl
     lia
  ·rw [if_neg hc] at hz; cases hz
theorem spanLen_list (P:Nat -> Bool) (T:Array Nat):∀ (n q:Nat),T.size - q = n -> spanLen P T n q = ((T.toList.drop q).takeWhile P).length:=by
 intro n
 induction n with
 | zero => intro q h; rw [drop_nil (Nat.le_of_sub_eq_zero h)]; rfl
 | succ n ih =>
  intro q h
  unfold spanLen
  rw [drop_cons (Nat.lt_of_sub_eq_succ h),List.takeWhile_cons]
  by_cases hp:P (T.getD q 0) = true
  ·rw [if_pos hp,if_pos hp,ih (q + 1) (by rw [Nat.sub_succ,h]; rfl)]; rfl
  ·rw [if_neg hp,if_neg hp]; rfl
theorem junkN_list (T:Array Nat):junkN T = (T.toList.takeWhile isJunk).length:=by
 unfold junkN; rw [spanLen_list _ _ _ 0 (Nat.sub_zero _)]; rfl
theorem op_subn {p:Pat} {a:Value} {pa:Addr} {x z:PyData} {t:Tok} (hz:subnP p x = some z) (hp:IsPat s.heap pa p.code p.groups) (ra:Rd H s.heap a x) (g:GG C H s.heap) (k:KD C H s Q z) :
  wpAny (model C.prog C.w) A (call (.builtin "re.Pattern.subn") [.ref pa,.str ⟨#[]⟩ t,a]) Q Ex s:=by
 refine xEA (sP_inv hz) fun x r0 hq3 => ?_
 obtain rfl:=r0
 replace hz:=hq3
 ·refine xEA (ra.str_inv) fun u r1 o2 => ?_
  obtain rfl:=r1
  by_cases hc:(tl x).length <= 10000
  ·rw [if_pos hc] at hz
   have hx:x.cps.size <= 10000:=hc
   cases p <;> try (cases hz; done)
   ·obtain ⟨hj,rfl⟩:=ite_some hz
    refine call_subn_junk hx hp (by rw [junkN_list]; exact hj) fun h' a tk tk' n tn he h1 h2 h3 hn => ?_
    subst hn
    refine k _ _ _ (Ext.ex he) (g.same he) ?_
    have hd:x.cps.toList.drop (junkN x.cps) = (tl x).dropWhile isJunk:=by rw [junkN_list]; exact takeWhile_drop _ _
    rw [hd] at h3
    refine .tuple (show 2 <= big by decide) (g.fresh (Heap.get?_none_of_le h1)) h3 rfl rfl (.cons (.str _ _ (.mk (fun c hc' => o2.all c ((List.dropWhile_sublist _).subset hc')) (Nat.le_trans (List.dropWhile_sublist _).length_le o2.2))) (.cons (.int _ _) .nil))
  ·rw [if_neg hc] at hz; cases hz
theorem jt_all (T:Array Nat):(T.size ≠ 0 /\ spanLen isJt T T.size 0 = T.size) ↔ (!T.toList.isEmpty && T.toList.all isJt) = true:=by
 rw [spanLen_list _ _ _ 0 (Nat.sub_zero _)]
 show _ /\ ((T.toList.takeWhile isJt).length = _) ↔ _
 rw [<- Array.length_toList]
 generalize T.toList = l
 have key:∀ l:List Nat,(l.takeWhile isJt).length = l.length ↔ l.all isJt = true:=by
  intro l
  induction l with
  | nil => simp
  | cons c r ih =>
   rw [List.takeWhile_cons]
   by_cases h:isJt c = true
   ·rw [if_pos h]; simp [h,<- ih]
   ·rw [if_neg h]; simp [h]
 rw [key]
 cases l with
 | nil => simp
 | cons c r => simp
theorem op_full {p:Pat} {a:Value} {pa:Addr} {x z:PyData} (hz:fullP p x = some z) (hp:IsPat s.heap pa p.code p.groups) (ra:Rd H s.heap a x) (g:GG C H s.heap)
  (k:∀ v h' tk,Ext s.heap h' -> ((v = .none /\ truth z = false) \/ (truth z = true /\ ∃ b X st hd gr,v = .ref b /\ IsMatch h' b X st hd gr)) -> Q v { s with heap:=h',toks:=tk }) :
  wpAny (model C.prog C.w) A (call (.builtin "re.Pattern.fullmatch") [.ref pa,a]) Q Ex s:=by
 refine xEA (sP_inv hz) fun x r0 hq4 => ?_
 obtain rfl:=r0
 replace hz:=hq4
 ·refine xEA (ra.str_inv) fun u r1 o2 => ?_
  obtain rfl:=r1
  obtain ⟨hc,rfl⟩:=ite_some hz
  obtain ⟨hc,rfl⟩:=hc
  have hx:x.cps.size <= 10000:=hc
  refine call_fullmatch (x:=x) hp hx (jt_full hx) (by lia) (fun e => ?_) fun st hd mks lm li e => ?_
  ·have:¬ (x.cps.size ≠ 0 /\ spanLen isJt x.cps x.cps.size 0 = x.cps.size):=fun q => by rw [if_pos q] at e; cases e
   rw [jt_all] at this
   exact k .none s.heap s.toks (Ext.refl _) (.inl ⟨rfl,by simpa [truth] using this⟩)
  ·by_cases q:x.cps.size ≠ 0 /\ spanLen isJt x.cps x.cps.size 0 = x.cps.size
   ·rw [if_pos q] at e; cases e
    refine ⟨[],.zero,fun a h' he h1 h2 hm => ?_⟩
    exact k _ h' s.toks he (.inr ⟨(jt_all _).mp q,a,_,_,_,_,rfl,hm⟩)
   ·rw [if_neg q] at e; cases e
end
section
variable {C:Cx} {H:Addr -> Prop} {A:Around} {n:Nat} {s:Shared} {Ex:Value -> Shared -> Prop} {Q:Value -> Shared -> Prop}
theorem mto_of {a:Addr} {x:Str} {st hd:Nat} {gr:List (Nat × Nat)} {h':Heap} (g:GG C H s.heap) (ox:SOk x) (hx:(tl x).length <= 10000) (f:FreshM s.heap.objs.size h' a) (m:IsMatch h' a x st hd gr):MtO H h' a x st hd gr:=by
 refine xEEEEEEA (m) fun t p pos lim li tp e1 e2 => ?_
 refine ⟨g.fresh (Heap.get?_none_of_le f.1),ox,hx,t,p,pos,lim,li,tp,g.fresh (Heap.get?_none_of_le ?_),e1,e2⟩
 exact f.2 _ _ tp e1 rfl rfl
theorem op_search {p:Pat} {a:Value} {pa:Addr} {x:Str} (hpt:p = .tok \/ p = .quo \/ p = .val) (hc:(tl x).length <= 10000) (hp:IsPat s.heap pa p.code p.groups) (ra:Rd H s.heap a (.str x)) (g:GG C H s.heap)
  (k:∀ v h' tk,Ext s.heap h' -> ((v = .none /\ srchD p x.cps = none) \/ ∃ b st hd gr,v = .ref b /\ srchD p x.cps = some (st,hd,gr) /\ MtO H h' b x st hd gr) -> Q v { s with heap:=h',toks:=tk }) :
  wpAny (model C.prog C.w) A (call (.builtin "re.Pattern.search") [.ref pa,a]) Q Ex s:=by
 refine xEA (ra.str_inv) fun u r1 o2 => ?_
 obtain rfl:=r1
 have hx:x.cps.size <= 10000:=hc
 rcases hpt with rfl | rfl | rfl
 ·refine call_search hp hx (tok_search (by lia)) (by lia) (fun e => ?_) fun st hd mks lm li e => ?_
  ·refine k .none s.heap s.toks (Ext.refl _) (.inl ⟨rfl,?_⟩)
   show (if tokN x.cps = 0 then none else _) = none
   by_cases h0:tokN x.cps = 0
   ·rw [if_pos h0]
   ·rw [if_neg h0] at e; cases e
  ·by_cases h0:tokN x.cps = 0
   ·rw [if_pos h0] at e; cases e
   ·rw [if_neg h0] at e; cases e
    refine ⟨_,.one (Nat.le_add_right _ _),fun a h' he h1 h2 hm => ?_⟩
    refine k _ h' s.toks he (.inr ⟨a,_,_,_,rfl,?_,mto_of g o2 hc h1 hm⟩)
    show (if tokN x.cps = 0 then none else _) = _
    rw [if_neg h0]
 ·refine call_search hp hx (quo_search (by (assumption))) (by (exact Nat.le_add_left _ _)) (fun e => ?_) fun st hd mks lm li e => ?_
  ·refine k .none s.heap s.toks (Ext.refl _) (.inl ⟨rfl,?_⟩)
   show (match quoC x.cps with | some e => some (0,e + 1,[(quoB x.cps,e)]) | none => none) = none
   cases q:quoC x.cps with
   | none => rfl
   | some z => rw [q] at e; cases e
  ·cases q:quoC x.cps with
   | none => rw [q] at e; cases e
   | some z =>
    rw [q] at e; cases e
    refine ⟨_,.one (quoC_in q).1,fun a h' he h1 h2 hm => ?_⟩
    refine k _ h' s.toks he (.inr ⟨a,_,_,_,rfl,?_,mto_of g o2 hc h1 hm⟩)
    show (match quoC x.cps with | some e => some (0,e + 1,[(quoB x.cps,e)]) | none => none) = _
    rw [q]
 ·refine call_search hp hx (val_search hx) (by lia) (fun e => ?_) fun st hd mks lm li e => ?_
  ·refine k .none s.heap s.toks (Ext.refl _) (.inl ⟨rfl,?_⟩)
   show (if hasEq x.cps then _ else none) = none
   by_cases h0:hasEq x.cps = true
   ·rw [if_pos h0] at e; cases e
   ·rw [if_neg h0]
  ·by_cases h0:hasEq x.cps = true
   ·rw [if_pos h0] at e; cases e
    refine ⟨_,.one (Nat.le_add_right _ _),fun a h' he h1 h2 hm => ?_⟩
    refine k _ h' s.toks he (.inr ⟨a,_,_,_,rfl,?_,mto_of g o2 hc h1 hm⟩)
    show (if hasEq x.cps then _ else none) = _
    rw [if_pos h0]
   ·rw [if_neg h0] at e; cases e
theorem op_grp {a:Addr} {x:Str} {st hd b e:Nat} {t:Tok} (m:MtO H s.heap a x st hd [(b,e)]) (g:GG C H s.heap) (k:KD C H s Q (sx (((tl x).drop b).take (e - b)))) :
  wpAny (model C.prog C.w) A (call (.builtin "re.Match.group") [.ref a,.int 1 t]) Q Ex s:=by
 refine call_group1 m.isMatch m.2.2.1 ?_
 have e1:(⟨x.cps.extract b e⟩:Str) = mkS (((tl x).drop b).take (e - b)):=by rw [<- mkS_tl ⟨_⟩,extract_list]
 rw [e1]
 have o:=m.2.1
 exact k.now g (.str _ _ (.mk (fun c hc => o.all c (List.mem_of_mem_drop (List.mem_of_mem_take hc))) (take_le (drop_le o.2))))
theorem op_span {a:Addr} {x:Str} {st hd:Nat} {gr:List (Nat × Nat)} {t:Tok} (m:MtO H s.heap a x st hd gr) (g:GG C H s.heap) (k:KD C H s Q (.tuple [.int st,.int hd])) :
  wpAny (model C.prog C.w) A (call (.builtin "re.Match.span") [.ref a,.int 0 t]) Q Ex s:=by
 refine call_span0 m.isMatch ?_
 exact k.push g _ (.tuple (show 2 <= big by decide) g.new (Heap.get?_push_size _ rfl) rfl rfl (.cons (.int _ _) (.cons (.int _ _) .nil)))
theorem op_mstr {a:Addr} {x:Str} {st hd:Nat} {gr:List (Nat × Nat)} {ex:Bool} (m:MtO H s.heap a x st hd gr) (g:GG C H s.heap) (k:KD C H s Q (sx (tl x))) :
  wpAny (model C.prog C.w) A (getAttr (.ref a) "string" ex) Q Ex s:=by
 refine xAAAEEEEEEAA (m) fun n ok z t p pos lim li tp n' e1 e2 => ?_
 refine str_attr e1 rfl rfl rfl ?_
 exact k.now g (.str _ _ ok)
theorem evalArgs_nil' {M:Model} {f:Value} {Q:Args -> Shared -> Prop} (h:wpAny M A (spliced []) (fun vs s' => Q ⟨vs,[]⟩ s') Ex s):wpAny M A (evalArgs f true [] []) Q Ex s:=by
 unfold evalArgs
 show wpAny M A (spliced [] >>= _) Q Ex s
 refine wpAny_bind (wpAny_mono h (fun vs s' h' => ?_) fun _ _ x => x)
 refine wpAny_holding ?_
 exact wpAny_bind (wpAny_pure (wpAny_bind (wpAny_pure (wpAny_pure h'))))
theorem meth_call {env:Env} {o:PySem.Expr} {name:Str} {apos pos:Pos} {args:List PySem.Expr} {T id:String}
  (hbase:attributeBase o name env (eval o env) = eval o env) (hplain:∀ x ∈ starEach args env,x.1 = false) (hlen:args.length < 29) (hline:(apos.endLine == pos.line) = true)
  (pa:PlainAttrs T) (slot:Slot T name id) (hty:typeOf (.builtin id) = pure (.type "method_descriptor"))
  (h:wpAny (model C.prog C.w) A (eval o env) (fun ov s₁ => s₁.TypeIs ov T /\ (∀ a,ov = .ref a -> ∃ ob,s₁.heap.get? a = some ob /\ ob.dict = none) /\
   wpAny (model C.prog C.w) A (spliced (starEach args env)) (fun vs s₂ => wpAny (model C.prog C.w) A (call (.builtin id) (ov :: vs)) Q Ex s₂) Ex s₁) Ex s) :
  wpAny (model C.prog C.w) A (eval (.Call (.Attribute o name apos) args [] pos) env) Q Ex s:=by
 have hb:backTo pos (starEach args env) = starEach args env:=by
  unfold backTo
  apply map_eq_self
  intro x hx
  obtain ⟨b,t⟩:=x
  have:b = false:=hplain _ hx
  subst this; rfl
 have hall:(starEach args env).all (fun x => !x.1) = true:=by
  rw [List.all_eq_true]; intro x hx; rw [hplain x hx]; rfl
 have hany:(starEach args env).any (fun x => x.1) = false:=by
  rw [List.any_eq_false]; intro x hx; rw [hplain x hx]; simp
 refine wpAny_Call_method (T:=T) (id:=id) hbase ?_ hline pa slot hty (wpAny_mono h (fun ov s₁ h₁ => ?_) fun _ _ e => e)
 ·rw [hb,hall]
  show (true && true && decide (args.length + 0 + 0 < 30)) = true
  rw [decide_eq_true (by lia)]; rfl
 ·refine xAA (h₁) fun h1 h2 h3 => ?_
  refine ⟨h1,h2,?_⟩
  rw [hb]
  refine PySem.Calls.callWith_builtin hany ?_
  cases hs:starEach args env with
  | nil =>
   rw [hs] at h3
   exact evalArgs_nil' h3
  | cons y r =>
   rw [hs] at h3
   obtain ⟨b,t⟩:=y
   have:b = false:=hplain (b,t) (by rw [hs]; exact List.mem_cons_self)
   subst this
   exact PySem.Calls.evalArgs_plain h3
theorem lam_body {env:Env} {m:Str -> Option Value} {a:Addr} {x:Str} {st hd b e:Nat} {pre:Str} {mn g z:Str} {k1 k2 k3:Nat} {p1 p2 p3 p4 p5 mp apos cpos:Pos}
  (hk:env.scope.kind = .function) (hl:env.kindOf "_m" = some .local) (hn:s.heap.Ns env.locals m) (hm:m "_m" = some (.ref a)) (hmn:mn = ("_m":Str)) (hg:g = ("group":Str)) (hz:z = ("":Str)) (hline:(apos.endLine == cpos.line) = true)
  (mt:IsMatch s.heap a x st hd [(b,e)]) (hx:x.cps.size <= 10000) (hpre:(tl pre).length <= 1000)
  (h:∀ tk tk',Q (.str (mkS (tl pre ++ ((tl x).drop b).take (e - b))) tk) { s with toks:=tk' }) :
  wpAny (model C.prog C.w) A (eval (.BinOp (.Constant (.str pre) k1 p1) .Add (.BoolOp .Or [.Call (.Attribute (.Name mn mp) g apos) [.Constant (.int 1) k2 p2] [] cpos,.Constant (.str z) k3 p3] p4) p5) env) Q Ex s:=by
 subst hmn hg hz
 have e1:(⟨x.cps.extract b e⟩:Str) = mkS (((tl x).drop b).take (e - b)):=by rw [<- mkS_tl ⟨_⟩,extract_list]
 have hlen:(((tl x).drop b).take (e - b)).length <= 10000:=take_le (drop_le hx)
 refine wpAny_BinOp (PySem.Calls.Constant_str ?_)
 have fin:∀ (tk':Nat) (y:Str) (t:Tok),y = mkS (((tl x).drop b).take (e - b)) -> wpAny (model C.prog C.w) A (binaryOp .Add (.str pre s.toks) (.str y t)) Q Ex { s with toks:=tk' }:=fun tk' y t hy => by
  subst hy
  refine SB.add (s:={ s with toks:=tk' }) (fun t' k' => ?_) ?_
  ·rw [str_append]; exact h _ _
  ·exact Nat.le_trans (Nat.add_le_add hpre hlen) (show 11000 <= sizeLine by decide)
 rw [arm_eval_BoolOp]
 show wpAny _ _ (boolOp p4 .Or [eval (.Call (.Attribute (.Name ("_m":Str) mp) ("group":Str) apos) [.Constant (.int 1) k2 p2] [] cpos) env,eval (.Constant (.str ("":Str)) k3 p3) env]) _ _ _
 unfold boolOp
 refine wpAny_bind ?_
 refine meth_call (T:="re.Match") (id:="re.Match.group") rfl (fun y hy => by
   have:y = (false,eval (.Constant (.int 1) k2 p2) env):=List.mem_singleton.mp hy
   rw [this]) (show 1 < 29 by decide) hline pa_mat slot_group type_group ?_
 refine wpAny_Name (wpAny_loadName_local hk hl hn hm ?_)
 refine ⟨mt.type (s:={ s with toks:=s.toks + 1 }),fun a' ea => by
   cases ea
   refine xEEEEEEA (mt) fun t p pos lim li tp e1 e2 => ?_
   exact ⟨_,e1,rfl⟩,?_⟩
 refine PySem.Calls.spliced_cons (x:=eval (.Constant (.int 1) k2 p2) env) (rest:=[]) ?_
 refine wpAny_Constant_int ?_
 refine PySem.Calls.spliced_nil ?_
 refine call_group1 (s:={ s with toks:=s.toks + 1 + 1 }) mt hx ?_
 rw [e1]
 refine wpAny_bind (wpAny_standAt (wpAny_bind (wpAny_holding ?_)))
 refine P.truthy_str ?_ ?_
 ·show ¬ (((tl (mkS (((tl x).drop b).take (e - b)))).length:Nat):Int) ≥ 2 ^ 63
  rw [tl_mkS]; lia
 ·by_cases hne:(((mkS (((tl x).drop b).take (e - b))).length:Int) != 0) = true
  ·rw [hne]
   exact wpAny_pure (fin _ _ _ rfl)
  ·rw [Bool.not_eq_true] at hne
   rw [hne]
   show wpAny _ _ (boolOp p4 .Or [eval (.Constant (.str ("":Str)) k3 p3) env]) _ _ _
   unfold boolOp
   refine PySem.Calls.Constant_str (fin _ _ _ ?_)
   have:(mkS (((tl x).drop b).take (e - b))).length = 0:=by
    rw [bne_eq_false_iff_eq] at hne; lia
   have e3:((tl x).drop b).take (e - b) = []:=List.eq_nil_of_length_eq_zero this
   rw [e3]; rfl
theorem not_t {b:Bool} (h:(!b) = true):b = false:=by cases b <;> first | rfl | exact (Bool.false_ne_true h).elim
theorem lam_parts {p:Pat} {lam:Option Pos} {args:Arguments} {body:PySem.Expr} {sc:Scope} {pos:Pos} (h:isLam p lam args body sc pos = true) :
  lam = some pos /\ sc.kind = .function /\ sc.isGenerator = false /\ sc.isCoroutine = false /\ sc.names = [(("_m":Str),.local)] /\ (∃ ap,args = ⟨[],[⟨("_m":Str),none,ap⟩],none,[],[],none,[]⟩) /\
  (∃ pre mn g z k1 k2 k3 p1 p2 p3 p4 p5 mp apos cpos,body = .BinOp (.Constant (.str pre) k1 p1) .Add (.BoolOp .Or [.Call (.Attribute (.Name mn mp) g apos) [.Constant (.int 1) k2 p2] [] cpos,.Constant (.str z) k3 p3] p4) p5 /\
   pre = lamPre p /\ mn = ("_m":Str) /\ g = ("group":Str) /\ (apos.endLine == cpos.line) = true /\ z = ("":Str)) /\ (p = .esc \/ p = .jesc):=by
 refine ba8 h fun h1 h2 h3 h4 h5 h6 h7 h8 => ?_
 refine ⟨eq_of_beq h1,of_decide_eq_true h2,not_t h3,not_t h4,eq_of_beq h5,?_,?_,?_⟩
 ·obtain ⟨a1,a2,a3,a4,a5,a6,a7⟩:=args
  apply nil_elim (l:=a1) h6; intro h6
  apply isN_elim (o:=a3) h6; intro h6
  apply nil_elim (l:=a4) h6; intro h6
  apply nil_elim (l:=a5) h6; intro h6
  apply isN_elim (o:=a6) h6; intro h6
  apply nil_elim (l:=a7) h6; intro h6
  apply l1_elim (l:=a2) h6; intro b h6
  obtain ⟨b1,b2,b3⟩:=b
  apply isN_elim (o:=b2) h6; intro h6
  obtain rfl:=eq_of_beq h6
  exact ⟨b3,rfl⟩
 ·apply vBinA_elim (x:=body) h7; intro s k q r p0 h7
  refine ba2 h7 fun a h7 => ?_
  apply vOr_elim (x:=r) h7; intro ys p4 h7
  apply l2_elim (l:=ys) h7; intro y z h7
  refine ba2 h7 fun b c => ?_
  apply vCallPI_elim (x:=y) b; intro m mp g ap j kj pj cp b
  apply vStr_elim (x:=z) c; intro e ke pe c
  refine ba4 b fun b1 b2 b3 b4 => ?_
  obtain rfl:=eq_of_beq b4
  exact ⟨_,_,_,_,_,_,_,_,_,_,_,_,_,_,_,rfl,eq_of_beq a,eq_of_beq b1,eq_of_beq b2,b3,eq_of_beq c⟩
 ·cases p <;> first | exact .inl rfl | exact .inr rfl | exact (Bool.false_ne_true h8).elim
theorem hit_lam {p:Pat} {lam:Option Pos} {params:Arguments} {body:PySem.Expr} {sc:Scope} {pos:Pos} {name qual:Str} {pm ctv:Value} {c' f a:Addr} {x:Str} {st hd b e:Nat} (hl:isLam p lam params body sc pos = true)
  (ho:s.heap.get? f = some (kla_obj name qual params body sc [] pm c' ctv)) (hcd:s.heap.CodeRec (.ref c') qual) (hroom:A.depth < recursionLimit) (nol:s.heap.NoLimit) (mt:IsMatch s.heap a x st hd [(b,e)]) (hx:x.cps.size <= 10000)
  (h:∀ tk h' tk',Ext s.heap h' -> s.heap.objs.size <= h'.objs.size -> Q (.str (mkS (tl (lamPre p) ++ ((tl x).drop b).take (e - b))) tk) { s with heap:=h',toks:=tk' }) :
  wpAny (model C.prog C.w) A (call (.ref f) [.ref a]) Q Ex s:=by
 obtain ⟨h1,hk,hg,hc,hn,⟨ap,rfl⟩,⟨pre,mn,g,z,k1,k2,k3,p1,p2,p3,p4,p5,mp,apos,cpos,rfl,hpre,hmn,hgr,hline,hz⟩,hp⟩:=lam_parts hl
 refine wpAny_call (kla_callFunE hroom ho rfl hc hg rfl hcd ?_)
 have hb:bindArgs (kla_fn name qual ⟨[],[⟨("_m":Str),none,ap⟩],none,[],[],none,[]⟩ (.BinOp (.Constant (.str pre) k1 p1) .Add (.BoolOp .Or [.Call (.Attribute (.Name mn mp) g apos) [.Constant (.int 1) k2 p2] [] cpos,.Constant (.str z) k3 p3] p4) p5) sc [] pm (.ref c') ctv) ⟨[.ref a],[]⟩ = pure [(("_m":Str),.ref a)]:=rfl
 rw [hb]
 refine wpAny_pure (wpAny_newFunctionEnv (by rw [hn]; simp) (fun y hy => by rw [List.mem_singleton.mp hy,hn]; rfl) (fun h₁ hns hsb => ⟨nol.fresh _ hsb,?_⟩) hk)
 have hk₁:Ext s.heap h₁:=fun b o e => hsb.extBut b o (Nat.ne_of_lt (Heap.lt_size e)) (Heap.get?_push_of_some _ e)
 refine kla_codeExpr ?_
 refine lam_body (x:=x) (st:=st) (hd:=hd) (a:=a) hk (by show sc.names.lookup _ = _; rw [hn]; rfl) hns (by rfl) hmn hgr hz hline (by
   refine xEEEEEEA (mt) fun t p pos lim li tp e1 e2 => ?_
   exact ⟨t,p,pos,lim,li,tp,hk₁ _ _ e1,hk₁ _ _ e2⟩) hx (by rw [hpre]; rcases hp with rfl | rfl <;> decide) fun tk tk' => ?_
 rw [hpre]
 refine h _ _ _ hk₁ ?_
 have:=hsb.1
 show s.heap.objs.size <= h₁.objs.size
 rw [this,Heap.size_push]; (exact Nat.le_succ _)
theorem op_subL {p:Pat} {lam:Option Pos} {params:Arguments} {body:PySem.Expr} {sc:Scope} {pos:Pos} {name qual:Str} {pm ctv:Value} {c' f pa:Addr} {a:Value} {x z:PyData} (hz:subLP p x = some z) (hl:isLam p lam params body sc pos = true)
  (hp:IsPat s.heap pa p.code p.groups) (ho:s.heap.get? f = some (kla_obj name qual params body sc [] pm c' ctv)) (hcd:s.heap.CodeRec (.ref c') qual) (aok:AOk A n) (nol:s.heap.NoLimit) (ra:Rd H s.heap a x) (g:GG C H s.heap) (k:KD C H s Q z) :
  wpAny (model C.prog C.w) A (call (.builtin "re.Pattern.sub") [.ref pa,.ref f,a]) Q Ex s:=by
 have hb:big = 1000000:=rfl
 have keepC:∀ h',Ext s.heap h' -> h'.CodeRec (.ref c') qual:=fun h' e => hcd.keeps e
 have keepN:∀ h',Ext s.heap h' -> h'.NoLimit:=fun h' e => nol.keeps e
 refine xEA (sP_inv hz) fun x r0 hq1 => ?_
 obtain rfl:=r0
 replace hz:=hq1
 ·refine xEA (ra.str_inv) fun u r1 o2 => ?_
  obtain rfl:=r1
  by_cases hc:(tl x).length <= 10000
  ·rw [if_pos hc] at hz
   refine xEA (Option.map_eq_some_iff.mp hz) fun l e r2 => ?_
   obtain rfl:=r2
   have hx:x.cps.size <= 10000:=hc
   rcases (lam_parts hl).2.2.2.2.2.2.2 with rfl | rfl
   ·cases e
    refine call_sub_fn (item:=itmE x.cps) hx hp ho rfl
     (finds_of (k:=(x.cps.size + 1) * 4 + 200) (w:=fun _ => 2) (gr:=fun t => [(t + 1,t + 2)]) (mk:=fun t => #[some (t + 1),some (t + 2)]) (lm:=1) (li:=1) (by lia) (fun q hq => esc_search hq) (fun t ht hP => by
      unfold escAt at hP; simp only [Bool.and_eq_true,decide_eq_true_eq] at hP; (omega)) fun _ => .one (by (exact Nat.le_succ _))) ?_ ?_ fun h' tk tk' he => ?_
    ·intro s' m q st hd gr Q' E' hq hnx he mt hQ
     refine xEA (Option.map_eq_some_iff.mp hnx) fun t e1 e2 => ?_
     cases e2
     refine hit_lam hl (he _ _ ho) (keepC _ he) aok.dep (keepN _ he) mt hx fun tk h'' tk' x1 x2 => ?_
     have:=hQ tk h'' tk' x1 x2
     have e3:(mkS (tl (lamPre .esc) ++ ((tl x).drop (st + 1)).take (st + 2 - (st + 1)))) = mkS (((x.cps.toList.drop (st + 1)).take (st + 2 - (st + 1))).take 1):=by
      rw [show st + 2 - (st + 1) = 1 by (simp +arith),List.take_take]; rfl
     rw [e3]; exact this
    ·intro st hd gr
     unfold itmE
     split
     ·rw [tl_mkS,List.length_take]; lia
     ·decide
    ·rw [esc_out]
     exact k _ _ _ (Ext.ex he) (g.same he) (.str _ _ (.mk (fun c hc' => o2.all c ((escL_sub _).subset hc')) (Nat.le_trans (escL_sub _).length_le o2.2)))
   ·cases e
    refine call_sub_fn (item:=itmJ x.cps) hx hp ho rfl
     (finds_of (k:=200) (w:=fun _ => 1) (gr:=fun t => [(t,t + 1)]) (mk:=fun t => #[some t,some (t + 1)]) (lm:=1) (li:=1) (by decide) (fun q hq => jesc_search hq) (fun t ht hP => by lia) fun _ => .one (by (exact Nat.le_succ _))) ?_ ?_ fun h' tk tk' he => ?_
    ·intro s' m q st hd gr Q' E' hq hnx he mt hQ
     refine xEA (Option.map_eq_some_iff.mp hnx) fun t e1 e2 => ?_
     cases e2
     refine hit_lam hl (he _ _ ho) (keepC _ he) aok.dep (keepN _ he) mt hx fun tk h'' tk' x1 x2 => ?_
     have:=hQ tk h'' tk' x1 x2
     have e3:(mkS (tl (lamPre .jesc) ++ ((tl x).drop st).take (st + 1 - st))) = mkS (92 :: ((x.cps.toList.drop st).take (st + 1 - st)).take 1):=by
      rw [show st + 1 - st = 1 by (simp +arith),List.take_take]; rfl
     rw [e3]; exact this
    ·intro st hd gr
     unfold itmJ
     split
     ·rw [tl_mkS,List.length_cons,List.length_take]; lia
     ·decide
    ·rw [jesc_out]
     refine k _ _ _ (Ext.ex he) (g.same he) (.str _ _ (.mk (fun c hc' => ?_) ?_))
     ·rcases jescL_mem _ hc' with h | h
      ·exact o2.all c h
      ·subst h; decide
     ·have:=jescL_len x.cps.toList
      have e2:x.cps.toList.length = (tl x).length:=rfl
      lia
  ·rw [if_neg hc] at hz; cases hz
theorem op_lambda {l:Lam} {env:Env} {params:Arguments} {body:PySem.Expr} {sc:Scope} {pos:Pos} {p:Pat} {lam:Option Pos} (K:CxOk C) (hl:l ∈ C.lams) (hcode:env.code = .ref l.c) (hpos:l.pos = pos) (hq:l.q = env.qual ++ "<lambda>") (hge:env.globals = mainGlobals)
  (isl:isLam p lam params body sc pos = true) (g:GG C H s.heap)
  (k:∀ f h' tk pm c' ctv,EX C.T s.heap h' -> GG C H h' -> h'.get? f = some (kla_obj "<lambda>" l.q params body sc [] pm c' ctv) -> h'.CodeRec (.ref c') l.q -> Q (.ref f) { s with heap:=h',toks:=tk }) :
  wpAny (model C.prog C.w) A (eval (.Lambda params body sc pos) env) Q Ex s:=by
 obtain ⟨h1,hk,hgn,hc,hn,⟨ap,rfl⟩,_,hp⟩:=lam_parts isl
 obtain ⟨cd,q⟩:=g.lam l hl
 have hPT:l.P ∈ C.T:=List.mem_map.mpr ⟨l,hl,rfl⟩
 have hclo:closureFor sc env = pure []:=closureFor_none (by rw [hn]; simp)
 refine kla_eval rfl ?_
 rw [<- hq]
 rcases q with q | ⟨c',q,nc,rc⟩
 ·refine kla_makeFunction hclo hge (g.ns K) hcode cd q (by show TriplesOk []; exact trivial) rfl (fun e => K.gT (e ▸ hPT)) (g.bat K hl) fun c' ctv h' tk hx hge' hlt hrec hP => ?_
  have hext:EX [l.P] s.heap h':=fun b o hb e => hx b o (by simpa using hb) e
  have hext':EX C.T s.heap (h'.push (kla_obj "<lambda>" l.q ⟨[],[⟨("_m":Str),none,ap⟩],none,[],[],none,[]⟩ body sc [] ((C.mg "__name__").getD .none) c' ctv)):=fun b o hb e => Heap.get?_push_of_some _ (hext b o (by simp; intro e'; exact hb (e' ▸ hPT)) e)
  refine k _ _ tk _ c' ctv hext' ⟨g.base.trans hext',fun l' hl' => ?_,g.hid,g.cod,fun a ha => ?_⟩ (Heap.get?_push_size _ rfl) (hrec.push _)
  ·by_cases e:l'.P = l.P
   ·have:l' = l:=K.inj _ hl' _ hl e
    subst this
    refine ⟨codeHd_ex cd hext' fun m => g.cod _ hl' (g.hid _ m),.inr ⟨c',?_,g.fresh (Heap.get?_none_of_le hge'),hrec.push _⟩⟩
    refine Heap.get?_push_of_some _ ?_
    rw [hpos]; exact hP
   ·obtain ⟨cd',q'⟩:=g.lam l' hl'
    have hnP:l'.P ∉ [l.P]:=by simpa using e
    refine ⟨codeHd_ex cd' hext' fun m => g.cod _ hl' (g.hid _ m),?_⟩
    rcases q' with q' | ⟨c2,q',n2,r2⟩
    ·exact .inl (Heap.get?_push_of_some _ (hext _ _ hnP q'))
    ·exact .inr ⟨c2,Heap.get?_push_of_some _ (hext _ _ hnP q'),n2,CodeRec.ex r2 hext' fun m => n2 (g.hid _ m)⟩
  ·by_cases e:a = l.P
   ·exact ⟨_,e ▸ Heap.get?_push_of_some _ hP⟩
   ·obtain ⟨o,eo⟩:=g.live a ha
    exact ⟨o,Heap.get?_push_of_some _ (hext _ _ (by simpa using e) eo)⟩
 ·refine kla_makeFunctionHit (cv:=.ref c') hclo hge (g.ns K) hcode cd q ?_ ?_ (g.bat K hl) fun ctv h' tk hx hsz => ?_
  ·exact trivial
  ·rw [<- hpos]; simp [codeAmong,rawInt]
  ·exact k _ _ tk _ c' ctv (Ext.ex (Ext.trans hx (Ext.push _))) (g.same (Ext.trans hx (Ext.push _))) (Heap.get?_push_size _ rfl) ((rc.keeps hx).push _)
end
noncomputable def goodIter (nm:String):Bool:=!(["enumerate","zip","dict_itemiterator","dict_reverseitemiterator","odict_iterator","itertools.zip_longest","itertools.pairwise"].contains nm)
structure IterOk (C:Cx) (H:Addr -> Prop) (I:Addr) (items:List PyData) (i:Nat) (h:Heap):Prop where
 ex:∃ (fp:List Addr) (P:Nat -> Value -> Prop) (St:Nat -> Heap -> Prop),(∀ A:Around,A.handled = none -> Walks C.prog C.w A I fp [I] items.length P St) /\ St i h /\ (∀ b ∈ fp,b = I \/ (¬ H b /\ ∃ o,h.get? b = some o)) /\
  (∀ j v,j < items.length -> P j v -> ∃ d,items[j]? = some d /\ Rd H h v d) /\ (∀ j h',St j h' -> ∃ o nm vs,h'.get? I = some o /\ o.cls = .type nm /\ o.data = .fields vs /\ goodIter nm = true)
 hI:H I
section
variable {C:Cx} {H H':Addr -> Prop} {A:Around} {n:Nat} {s:Shared} {Ex:Value -> Shared -> Prop} {I:Addr} {items:List PyData} {i:Nat} {h h':Heap} {X:List Addr}
theorem IterOk.step (x:IterOk C H I items i h) (k:EX X h h') (hX:∀ a ∈ X,H a) (hI:I ∉ X):IterOk C H I items i h':=by
 obtain ⟨⟨fp,P,St,W,st,hf,hp,hl⟩,hh⟩:=x
 refine ⟨⟨fp,P,St,W,?_,?_,?_,hl⟩,hh⟩
 ·refine (W { } rfl).frame _ _ _ st fun b hb o e => k b o ?_ e
  rcases hf b hb with rfl | ⟨q,_⟩
  ·exact hI
  ·exact fun m => q (hX b m)
 ·intro b hb
  rcases hf b hb with q | ⟨q,o,e⟩
  ·exact .inl q
  ·exact .inr ⟨q,o,k b o (fun m => q (hX b m)) e⟩
 ·intro j v hj q
  refine xEA (hp j v hj q) fun d e r => ?_
  exact ⟨d,e,r.ex k hX⟩
theorem IterOk.more (x:IterOk C H I items i h) (k:∀ a,H' a -> H a \/ h.get? a = none) (k':∀ a,H a -> H' a):IterOk C H' I items i h:=by
 obtain ⟨⟨fp,P,St,W,st,hf,hp,hl⟩,hh⟩:=x
 refine ⟨⟨fp,P,St,W,st,?_,?_,hl⟩,k' _ hh⟩
 ·intro b hb
  rcases hf b hb with q | ⟨q,o,e⟩
  ·exact .inl q
  ·refine .inr ⟨fun m => ?_,o,e⟩
   rcases k b m with z | z
   ·exact q z
   ·rw [e] at z; cases z
 ·intro j v hj q
  refine xEA (hp j v hj q) fun d e r => ?_
  exact ⟨d,e,r.more k⟩
theorem IterOk.less (x:IterOk C H I items i h) (k:∀ a,H' a -> H a) (hI:H' I):IterOk C H' I items i h:=by
 obtain ⟨⟨fp,P,St,W,st,hf,hp,hl⟩,hh⟩:=x
 refine ⟨⟨fp,P,St,W,st,?_,?_,hl⟩,hI⟩
 ·intro b hb
  rcases hf b hb with q | ⟨q,o,e⟩
  ·exact .inl q
  ·exact .inr ⟨fun m => q (k b m),o,e⟩
 ·intro j v hj q
  refine xEA (hp j v hj q) fun d e r => ?_
  exact ⟨d,e,r.less k⟩
theorem IterOk.live (x:IterOk C H I items i h):∃ o,h.get? I = some o:=by
 obtain ⟨⟨fp,P,St,W,st,hf,hp,hl⟩,hh⟩:=x
 refine xEEEA (hl _ _ st) fun o _ _ e _ => ?_
 exact ⟨o,e⟩
theorem iter_next {Q:Option Value -> Shared -> Prop} (hA:A.handled = none) (x:IterOk C H I items i s.heap) (hi:i < items.length)
  (k:∀ v h' tk d,items[i]? = some d -> Rd H h' v d -> IterOk C H I items (i + 1) h' -> EX [I] s.heap h' -> Q (some v) { s with heap:=h',toks:=tk }):wpAny (model C.prog C.w) A (pyNext (.ref I)) Q Ex s:=by
 obtain ⟨⟨fp,P,St,W,st,hf,hp,hl⟩,hh⟩:=x
 refine (W A hA).item i s _ _ hi st fun v h' tk hP st' hk => ?_
 refine xEA (hp i v hi hP) fun d e r => ?_
 have hX:∀ a ∈ [I],H a:=fun a m => by rw [List.mem_singleton.mp m]; exact hh
 have hk':EX [I] s.heap h':=hk
 refine k v h' tk d e (r.ex hk' hX) ⟨⟨fp,P,St,W,st',?_,?_,hl⟩,hh⟩ hk'
 ·intro b hb
  rcases hf b hb with q | ⟨q,o,e⟩
  ·exact .inl q
  ·exact .inr ⟨q,o,hk' b o (fun m => q (hX b m)) e⟩
 ·intro j v hj q
  refine xEA (hp j v hj q) fun d e r => ?_
  exact ⟨d,e,r.ex hk' hX⟩
theorem iter_done {Q:Option Value -> Shared -> Prop} (hA:A.handled = none) (x:IterOk C H I items items.length s.heap) (k:∀ h' tk,EX [I] s.heap h' -> Q none { s with heap:=h',toks:=tk }) :
  wpAny (model C.prog C.w) A (pyNext (.ref I)) Q Ex s:=by
 obtain ⟨⟨fp,P,St,W,st,hf,hp,hl⟩,hh⟩:=x
 exact (W A hA).done s _ _ st fun h' tk hk => k h' tk hk
theorem iter_self {Q:Value -> Shared -> Prop} (hA:A.handled = none) (x:IterOk C H I items i s.heap) (k:Q (.ref I) s):wpAny (model C.prog C.w) A (pyIter (.ref I)) Q Ex s:=by
 obtain ⟨⟨fp,P,St,W,st,hf,hp,hl⟩,hh⟩:=x
 exact (W A hA).self i s _ _ st k
theorem iter_go {Q:Unit -> Shared -> Prop} {target:PySem.Expr} {v:Value} (x:IterOk C H I items i s.heap) (k:Q () s):wpAny (model C.prog C.w) A (letOwnedTupleGo target (.ref I) v) Q Ex s:=by
 obtain ⟨⟨fp,P,St,W,st,hf,hp,hl⟩,hh⟩:=x
 refine xEEEAAA (hl _ _ st) fun o nm vs e hc hd hg => ?_
 have hg':(["enumerate","zip","dict_itemiterator","dict_reverseitemiterator","odict_iterator","itertools.zip_longest","itertools.pairwise"].contains nm) = false:=by
  unfold goodIter at hg; simpa using hg
 have body:∀ r a,wpAny (model C.prog C.w) A (do
   let o <- load I
   match o.cls,o.data with
   | .type n,.fields vs =>
    if ["enumerate","zip","dict_itemiterator","dict_reverseitemiterator","odict_iterator","itertools.zip_longest","itertools.pairwise"].contains n && vs[0]? == some (rawInt a) then
     rule r
     updateField I 0 .none
   | _,_ => pure ()) Q Ex s:=fun r a => by
  refine wpAny_bind (wpAny_load e ?_)
  rw [hc,hd]
  simp only [hg',Bool.false_and,Bool.false_eq_true,if_false]
  exact wpAny_pure k
 cases target <;> first | exact wpAny_pure k | (cases v <;> first | exact wpAny_pure k | exact body _ _)
noncomputable def Hide (H:Addr -> Prop) (a:Addr):Addr -> Prop:=fun b => H b \/ b = a
theorem hide_new {H:Addr -> Prop} {h:Heap}:∀ a,Hide H h.objs.size a -> H a \/ h.get? a = none:=fun a m => m.imp id fun (e:a = _) => by rw [e]; exact Heap.get?_none_of_le (Nat.le_refl _)
theorem hide_of {H:Addr -> Prop} {b:Addr}:∀ a,H a -> Hide H b a:=fun _ m => .inl m
theorem GG.hideNew (g:GG C H h) (o:Obj) (hf:o.isFreed = false):GG C (Hide H h.objs.size) (h.push o):=
 g.hide (Ext.push o) hide_new hide_of fun a m => by
  rcases m with m | rfl
  ·obtain ⟨o',e⟩:=g.live a m; exact ⟨o',Heap.get?_push_of_some _ e⟩
  ·exact ⟨o,Heap.get?_push_size _ hf⟩
theorem GG.drop (g:GG C H h) (k:EX X h h') (hX:∀ a ∈ X,H a) (hb:∀ a ∈ X,C.hb.get? a = none) (hT:∀ a ∈ X,a ∉ C.T) (hs:∀ a,H' a -> H a /\ a ∉ X) (hT':∀ a ∈ C.T,H' a):GG C H' h':=by
 refine ⟨fun b o hb' e => k b o (fun m => by rw [hb b m] at e; cases e) (g.base b o hb' e),fun l hl => ?_,hT',fun l hl m => g.cod l hl (hs _ m).1,fun a m => ?_⟩
 ·have hP:l.P ∉ X:=fun m => hT _ m (List.mem_map.mpr ⟨l,hl,rfl⟩)
  have hc:l.c ∉ X:=fun m => g.cod l hl (hX _ m)
  obtain ⟨cd,q⟩:=g.lam l hl
  refine ⟨codeHd_ex cd k hc,?_⟩
  rcases q with q | ⟨c',q,n,r⟩
  ·exact .inl (k _ _ hP q)
  ·exact .inr ⟨c',k _ _ hP q,fun m => n (hs _ m).1,CodeRec.ex r k fun m => n (hX _ m)⟩
 ·obtain ⟨h1,h2⟩:=hs a m
  obtain ⟨o,e⟩:=g.live a h1
  exact ⟨o,k a o h2 e⟩
theorem sx_ok {x:Str} (o:SOk x) {c:Nat} (hc:c ∈ tl x):SOk (mkS [c]):=.mk (fun d hd => by rw [List.mem_singleton.mp hd]; exact o.all c hc) (show 1 <= big by decide)
theorem op_iter {v:Value} {d:PyData} {Q:Value -> Shared -> Prop} (hz:itemsD d = some items) (r:Rd H s.heap v d) (g:GG C H s.heap)
  (k:∀ o,o.isFreed = false -> IterOk C (Hide H s.heap.objs.size) s.heap.objs.size items 0 (s.heap.push o) -> Q (.ref s.heap.objs.size) { s with heap:=s.heap.push o }) :
  wpAny (model C.prog C.w) A (pyIter v) Q Ex s:=by
 have hn:=g.new
 have key:∀ o,EX [] s.heap (s.heap.push o):=fun o b o' _ e => Heap.get?_push_of_some _ e
 have old:∀ {a:Addr} {o:Obj},s.heap.get? a = some o -> a ≠ s.heap.objs.size:=fun e => Nat.ne_of_lt (Heap.lt_size e)
 refine stl_el hz (fun x r0 hz => ?_) (fun xs r0 hz => ?_) fun xs r0 hz => ?_ <;> obtain rfl:=r0
 ·refine xEA (r.str_inv) fun t r1 ok => ?_
  obtain rfl:=r1
  cases hz
  have hlen:((tl x).map fun c => sx [c]).length = x.cps.size:=by rw [List.length_map]; rfl
  have hP:∀ (h:Heap) (j:Nat) (v:Value),j < ((tl x).map fun c => sx [c]).length -> SignAt x j v -> ∃ d,((tl x).map fun c => sx [c])[j]? = some d /\ Rd (Hide H s.heap.objs.size) h v d:=fun h j v hj ⟨c,u,e1,e2⟩ => by
   have e3:(tl x)[j]? = some c:=by rw [Array.getElem?_toList]; exact e1
   refine ⟨sx [c],by rw [List.getElem?_map,e3]; rfl,?_⟩
   subst e2
   exact .str (mkS [c]) u (sx_ok ok (List.mem_of_getElem? e3))
  cases ha:x.cps.all (· < 128)
  ·refine wpAny_pyIter_wide ha (k _ rfl ⟨⟨[s.heap.objs.size],SignAt x,fun i h => h.IsStrIter s.heap.objs.size "str_iterator" x t i,fun A hA => by rw [hlen]; exact Walks.strWide hA _ x t,⟨_,Heap.get?_push_size _ rfl,rfl,rfl⟩,
    fun b hb => .inl (List.mem_singleton.mp hb),hP _,fun j h' st => ?_⟩,.inr rfl⟩)
   refine xEAA (st) fun o e hc hd => ?_
   exact ⟨o,_,_,e,hc,hd,rfl⟩
  ·refine wpAny_pyIter_ascii ha (k _ rfl ⟨⟨[s.heap.objs.size],SignAt x,fun i h => h.IsStrIter s.heap.objs.size "str_ascii_iterator" x t i,fun A hA => by rw [hlen]; exact Walks.strAscii hA _ x t,⟨_,Heap.get?_push_size _ rfl,rfl,rfl⟩,
    fun b hb => .inl (List.mem_singleton.mp hb),hP _,fun j h' st => ?_⟩,.inr rfl⟩)
   refine xEAA (st) fun o e hc hd => ?_
   exact ⟨o,_,_,e,hc,hd,rfl⟩
 ·cases hz
  cases r with
  | list z nH e c q r =>
   rename_i a o vs ne
   have hl:s.heap.IsList a vs:=⟨_,e,c,_,q⟩
   have hlen:=r.length; rw [Array.length_toList] at hlen
   refine wpAny_pyIter_list hl (k _ rfl ⟨⟨[s.heap.objs.size,a],fun i v => vs[i]? = some v,fun i h => h.IsListIter s.heap.objs.size a i /\ h.IsList a vs,fun A hA => by rw [<- hlen]; exact Walks.list hA _ a (old e) vs,
    ⟨⟨_,Heap.get?_push_size _ rfl,rfl,rfl⟩,hl.push _⟩,fun b hb => ?_,fun j v hj hv => ?_,fun j h' st => ?_⟩,.inr rfl⟩)
   ·rcases List.mem_cons.mp hb with rfl | hb
    ·exact .inl rfl
    ·rw [List.mem_singleton.mp hb]
     refine .inr ⟨fun m => ?_,_,Heap.get?_push_of_some _ e⟩
     rcases m with m | m
     ·exact nH m
     ·exact old e m
   ·obtain ⟨d,e1,r1⟩:=r.get' (by rw [Array.getElem?_toList]; exact hv)
    exact ⟨d,e1,(r1.more hide_new).ex (key _) no_mem⟩
   ·obtain ⟨⟨o,e,hc,hd⟩,_⟩:=st
    exact ⟨o,_,_,e,hc,hd,rfl⟩
 ·cases hz
  cases r with
  | tuple z nH e c q r =>
   rename_i a o vs ne
   have hl:s.heap.IsTuple a vs:=⟨_,e,c,_,q⟩
   have hlen:=r.length; rw [Array.length_toList] at hlen
   refine wpAny_pyIter_tuple hl (k _ rfl ⟨⟨[s.heap.objs.size,a],fun i v => vs[i]? = some v,fun i h => h.IsTupleIter s.heap.objs.size a i /\ h.IsTuple a vs,fun A hA => by rw [<- hlen]; exact Walks.tuple hA _ a (old e) vs,
    ⟨⟨_,Heap.get?_push_size _ rfl,rfl,rfl⟩,hl.push _⟩,fun b hb => ?_,fun j v hj hv => ?_,fun j h' st => ?_⟩,.inr rfl⟩)
   ·rcases List.mem_cons.mp hb with rfl | hb
    ·exact .inl rfl
    ·rw [List.mem_singleton.mp hb]
     refine .inr ⟨fun m => ?_,_,Heap.get?_push_of_some _ e⟩
     rcases m with m | m
     ·exact nH m
     ·exact old e m
   ·obtain ⟨d,e1,r1⟩:=r.get' (by rw [Array.getElem?_toList]; exact hv)
    exact ⟨d,e1,(r1.more hide_new).ex (key _) no_mem⟩
   ·obtain ⟨⟨o,e,hc,hd⟩,_⟩:=st
    exact ⟨o,_,_,e,hc,hd,rfl⟩
theorem op_range_iter {r:Addr} {a b:Int} {t u v:Tok} {Q:Value -> Shared -> Prop} (hz:rngD a b = some items) (hr:IsRange s.heap r a b 1 t u v) (g:GG C H s.heap)
  (k:∀ o,o.isFreed = false -> IterOk C (Hide H s.heap.objs.size) s.heap.objs.size items 0 (s.heap.push o) -> Q (.ref s.heap.objs.size) { s with heap:=s.heap.push o }) :
  wpAny (model C.prog C.w) A (pyIter (.ref r)) Q Ex s:=by
 unfold rngD at hz
 obtain ⟨hc,rfl⟩:=ite_some hz
 have hsize:Builtin.Range.rangeSize a b 1 = (((b - a).toNat:Nat):Int):=rangeSize_nat a b
 have fits:∀ i:Int,-1000000 <= i -> i <= 1000000 -> Builtin.Range.rangeFitsLong i = true:=fun i h1 h2 => by
  unfold Builtin.Range.rangeFitsLong
  rw [decide_eq_true (show -(2 ^ 63) <= i by lia),decide_eq_true (show i < 2 ^ 63 by lia)]; rfl
 have hsmall:Builtin.Range.small a b 1 = true:=by
  unfold Builtin.Range.small
  rw [hsize,fits a (by lia) (by (omega)),fits b (by lia) (by (omega)),fits 1 (by decide) (by decide),fits _ (by lia) (by lia)]
  simp only [Bool.true_and,show (1:Int) > 0 by decide,if_true]
  rw [fits _ (by lia) (by lia)]; simp
 refine wpAny_pyIter_range hr hsmall ?_
 rw [hsize]
 refine k _ rfl ⟨⟨[s.heap.objs.size],fun i v => ∃ t,v = .int (a + (i:Int)) t,fun i h => IsRangeIter h s.heap.objs.size (a + (i:Nat) * 1) (((b - a).toNat:Nat) - (i:Nat)) 1,fun A hA => by rw [List.length_map,List.length_range]; exact LCg.range_walks hA a _,?_,
  fun b hb => .inl (List.mem_singleton.mp hb),fun j v hj hv => ?_,fun j h' st => ⟨_,_,_,st,rfl,rfl,rfl⟩⟩,.inr rfl⟩
 ·show (s.heap.push _).get? _ = some _
  rw [Heap.get?_push_size _ rfl]
  simp
 ·obtain ⟨t,rfl⟩:=hv
  rw [List.length_map,List.length_range] at hj
  refine ⟨.int (a + (j:Nat)),?_,.int _ _⟩
  rw [List.getElem?_map,List.getElem?_range hj]; rfl
end
noncomputable def bindN (m:Str -> Option Value):List Str -> List Value -> Str -> Option Value
 | n :: ns,v :: vs => bindN (fun y => if y = n then some v else m y) ns vs
 | _,_ => m
theorem bindN_other {m:Str -> Option Value} {y:Str}:∀ {ns:List Str} {vs:List Value},y ∉ ns -> bindN m ns vs y = m y
 | [],_,_ => by delta bindN; rfl
 | n :: ns,[],_ => by delta bindN; rfl
 | n :: ns,v :: vs,h => by
  unfold bindN
  rw [bindN_other (fun q => h (List.mem_cons_of_mem _ q)),if_neg (fun (e:y = n) => h (by rw [e]; exact List.mem_cons_self))]
theorem bindN_at {y:Str} {v:Value}:∀ {ns:List Str} {vs:List Value} {m:Str -> Option Value} {i:Nat},ns.Nodup -> ns[i]? = some y -> vs[i]? = some v -> bindN m ns vs y = some v
 | [],_,_,i,_,h,_ => by simp at h
 | n :: ns,[],_,i,_,_,h => by simp at h
 | n :: ns,w :: vs,m,i,hn,h1,h2 => by
  unfold bindN
  rw [List.nodup_cons] at hn
  cases i with
  | zero =>
   simp at h1 h2; subst h1 h2
   rw [bindN_other hn.1,if_pos rfl]
  | succ i => exact bindN_at hn.2 (by simpa using h1) (by simpa using h2)
section
variable {C:Cx} {H H':Addr -> Prop} {A:Around} {n:Nat} {s:Shared} {Ex:Value -> Shared -> Prop}
theorem store_local {env:Env} {x:Str} {v:Value} {m:Str -> Option Value} {Q:Unit -> Shared -> Prop} (hk:env.scope.kind = .function) (hl:env.kindOf x = some .local) (hn:s.heap.Ns env.locals m)
  (k:∀ h' tk,h'.Ns env.locals (fun y => if y = x then some v else m y) -> EX [env.locals] s.heap h' -> Q () { s with heap:=h',toks:=tk }):wpAny (model C.prog C.w) A (storeName env x v) Q Ex s:=
 wpAny_storeName_local hl hn (fun h' hn' hs => k h' _ hn' fun b o hb e => (hs.2 b (by simpa using hb)).trans e) (by rw [hk]; rfl)
theorem storeAll {env:Env} (hk:env.scope.kind = .function):∀ (ns:List Str) (ps:List Pos) (vs:List Value) (m:Str -> Option Value) (s:Shared) (Q:Unit -> Shared -> Prop),ns.length = ps.length -> ns.length = vs.length -> (∀ x ∈ ns,env.kindOf x = some .local) -> s.heap.Ns env.locals m ->
  (∀ h' tk,h'.Ns env.locals (bindN m ns vs) -> EX [env.locals] s.heap h' -> Q () { s with heap:=h',toks:=tk }) ->
  wpAny (model C.prog C.w) A (assignInOrder ((ns.zip ps).map fun q => assign (.Name q.1 q.2) env) vs) Q Ex s
 | [],_,_,m,s,Q,_,_,_,hn,k => by
  rw [List.zip_nil_left]
  exact wpAny_pure (k s.heap s.toks hn (EX.refl _))
 | x :: ns,[],_,_,_,_,h,_,_,_,_ => by simp at h
 | x :: ns,p :: ps,[],_,_,_,_,h,_,_,_ => by simp at h
 | x :: ns,p :: ps,v :: vs,m,s,Q,h1,h2,hl,hn,k => by
  rw [List.zip_cons_cons,List.map_cons]
  show wpAny _ _ (holding vs (assign (.Name x p) env v) >>= fun _ => assignInOrder _ vs) _ _ _
  refine wpAny_bind (wpAny_holding (wpAny_assign_Name (store_local hk (hl x List.mem_cons_self) hn fun h' tk hn' he => ?_)))
  refine storeAll hk ns ps vs _ { s with heap:=h',toks:=tk } Q (by simpa using h1) (by simpa using h2) (fun y hy => hl y (List.mem_cons_of_mem _ hy)) hn' fun h'' tk' hn'' he' => ?_
  exact k h'' tk' hn'' (he.trans he')
theorem assignEach_names (env:Env):∀ l:List (Str × Pos),assignEach (l.map fun q => .Name q.1 q.2) env = l.map fun q => (false,assign (.Name q.1 q.2) env)
 | [] => rfl
 | q :: r => by
  show (false,assign (.Name q.1 q.2) env) :: assignEach (r.map fun q => .Name q.1 q.2) env = _
  rw [assignEach_names env r]; rfl
theorem op_assign {env:Env} {t:PySem.Expr} {ns:List Str} {v:Value} {d:PyData} {tg:List RV} {m:Str -> Option Value} {Q:Unit -> Shared -> Prop} (hA:A.handled = none) (ht:tgtNames t = some ns) (hb:bindT ns.length d = some tg) (r:Rd H s.heap v d)
  (hk:env.scope.kind = .function) (hl:∀ x ∈ ns,env.kindOf x = some .local) (hn:s.heap.Ns env.locals m)
  (k:∀ vs h' tk,vs.length = ns.length -> (∀ (i:Nat) (rv:RV),tg[i]? = some rv -> ∃ w,vs[i]? = some w /\ ∃ y,rv = RV.d y /\ Rd H s.heap w y) -> tg.length = ns.length -> h'.Ns env.locals (bindN m ns vs) -> EX [env.locals] s.heap h' -> Q () { s with heap:=h',toks:=tk }) :
  wpAny (model C.prog C.w) A (assign t env v) Q Ex s:=by
 rcases tgt_cases ht with ⟨x,p,rfl,rfl⟩ | ⟨ps,kk,p,rfl,hlen,h2⟩
 ·have e:tg = [.d d]:=by
   exact (Option.some.inj hb).symm
  subst e
  refine wpAny_assign_Name (store_local hk (hl x List.mem_cons_self) hn fun h' tk hn' he => ?_)
  refine k [v] h' tk rfl (fun i rv hi => ?_) rfl hn' he
  cases i with
  | zero => simp at hi; subst hi; exact ⟨v,rfl,d,rfl,r⟩
  | succ i => simp at hi
 ·have hb':∃ xs,d = .tuple xs /\ xs.length = ns.length /\ tg = xs.map .d:=by
   refine xEA (tP_inv ((if_neg (Nat.ne_of_gt h2)).symm.trans hb)) fun xs r0 hb => ?_
   obtain ⟨e,rfl⟩:=ite_some hb; exact ⟨_,r0,e,rfl⟩
  refine xEAA (hb') fun xs r1 hxs r3 => ?_
  obtain rfl:=r1
  obtain rfl:=r3
  refine xEEAAA (r.tuple_inv) fun a vs r2 hz htup rs => ?_
  obtain rfl:=r2
  have hvl:=rs.length; rw [Array.length_toList] at hvl
  have hea:=assignEach_names env (ns.zip ps)
  have hzl:(ns.zip ps).length = ns.length:=by rw [List.length_zip]; lia
  refine assign_Tuple_tuple hA htup ?_ ?_ fun h' hx => ?_
  ·rw [hea,List.length_map,hzl]; lia
  ·rw [hea]
   rw [List.findIdx?_eq_none_iff]
   intro q hq
   refine xEA (List.mem_map.mp hq) fun z _ r2 => ?_
   obtain rfl:=r2
   rfl
  ·rw [hea,List.map_map]
   have hlt:∀ {b o},s.heap.get? b = some o -> b ≠ s.heap.objs.size:=fun e => Nat.ne_of_lt (Heap.lt_size e)
   have he0:∀ b o,s.heap.get? b = some o -> h'.get? b = some o:=fun b o e => hx b o (hlt e) e
   refine storeAll hk ns ps vs.toList m { s with heap:=h' } Q hlen (hxs.symm.trans rs.length.symm) hl (let ⟨o,es,ep,e,q⟩:=hn; ⟨o,es,ep,he0 _ _ e,q⟩) fun h'' tk' hn'' he' => ?_
   refine k vs.toList h'' tk' (rs.length.trans hxs) (fun i rv hi => ?_) (by rw [List.length_map]; exact hxs) hn'' fun b o hb e => he' b o hb (he0 b o e)
   obtain ⟨y,hy,rfl⟩:=by rw [List.getElem?_map] at hi; exact Option.map_eq_some_iff.mp hi
   refine xEA (rs.get hy) fun w hw rw => ?_
   exact ⟨w,hw,y,rfl,rw⟩
end
structure Here (C:Cx) (lam:Option Pos) (Γ:List (Str × NameKind)) (env:Env) (ρ:List RV) (A:Around) (n:Nat) (H:Addr -> Prop) (h:Heap):Prop where
 fr:FR C Γ env ρ H h
 lm:∀ pos,lam = some pos -> ∃ l ∈ C.lams,env.code = .ref l.c /\ l.pos = pos /\ l.q = env.qual ++ "<lambda>"
 ao:AOk A (n + 1)
 gg:GG C H h
theorem Here.ex {C:Cx} {lam:Option Pos} {Γ:List (Str × NameKind)} {env:Env} {ρ:List RV} {A:Around} {n:Nat} {H:Addr -> Prop} {h h':Heap} (x:Here C lam Γ env ρ A n H h) (k:EX C.T h h') (g:GG C H h'):Here C lam Γ env ρ A n H h':=
 ⟨x.fr.ex k x.gg.hid,x.lm,x.ao,g⟩
theorem KD.after {C:Cx} {H:Addr -> Prop} {s:Shared} {Q:Value -> Shared -> Prop} {d:PyData} (k:KD C H s Q d) {h':Heap} {tk:Nat} (e:EX C.T s.heap h'):KD C H { s with heap:=h',toks:=tk } Q d:=
 fun v h'' tk' e' g r => k v h'' tk' (e.trans e') g r
noncomputable def FOk (C:Cx) (F:Str -> List RV -> Option PyData) (n:Nat):Prop:=
 ∀ f args d,F f args = some d -> f ∈ C.G.fns -> ∀ (A:Around),AOk A n -> ∀ (H:Addr -> Prop) (s:Shared) (vs:List Value) (Q:Value -> Shared -> Prop) (Ex:Value -> Shared -> Prop),GG C H s.heap -> vs.length = args.length -> (∀ (i:Nat) (rv:RV) (v:Value),args[i]? = some rv -> vs[i]? = some v -> RVok H s.heap v rv) ->
  KD C H s Q d -> ∀ a,C.mg f = some (.ref a) -> wpAny (model C.prog C.w) A (call (.ref a) vs) Q Ex s
noncomputable def FnsOk (C:Cx):Prop:=∀ f ∈ C.G.fns,∃ a o fd,C.mg f = some (.ref a) /\ C.hb.get? a = some o /\ o.data = .func fd /\ a ∉ C.T
noncomputable def SndV (C:Cx) (F:Str -> List RV -> Option PyData) (n:Nat) (e:E):Prop:=∀ {lam:Option Pos} {Γ:List (Str × NameKind)} {env:Env} {ρ:List RV} {x:PySem.Expr} {d:PyData} {A:Around} {H:Addr -> Prop} {s:Shared} {Q:Value -> Shared -> Prop} {Ex:Value -> Shared -> Prop},
 isX C.G lam e false Γ env.scope x = true -> evE F e ρ = some d -> Here C lam Γ env ρ A n H s.heap -> KD C H s Q d -> wpAny (model C.prog C.w) A (eval x env) Q Ex s
noncomputable def SndC (C:Cx) (F:Str -> List RV -> Option PyData) (n:Nat) (e:E):Prop:=∀ {lam:Option Pos} {Γ:List (Str × NameKind)} {env:Env} {ρ:List RV} {x:PySem.Expr} {d:PyData} {A:Around} {H:Addr -> Prop} {s:Shared} {Q:Bool -> Shared -> Prop} {Ex:Value -> Shared -> Prop},
 isX C.G lam e true Γ env.scope x = true -> evE F e ρ = some d -> Here C lam Γ env ρ A n H s.heap ->
  (∀ h' tk,EX C.T s.heap h' -> GG C H h' -> Q (truth d) { s with heap:=h',toks:=tk }) -> wpAny (model C.prog C.w) A (isTrue x env (eval x env)) Q Ex s
noncomputable def SndI (C:Cx) (F:Str -> List RV -> Option PyData) (n:Nat) (e:E):Prop:=∀ {lam:Option Pos} {Γ:List (Str × NameKind)} {env:Env} {ρ:List RV} {x:PySem.Expr} {d:PyData} {items:List PyData} {A:Around} {H:Addr -> Prop} {s:Shared} {Q:Value -> Shared -> Prop} {Ex:Value -> Shared -> Prop},
 isI C.G lam e Γ env.scope x = true -> evE F e ρ = some d -> itemsD d = some items -> Here C lam Γ env ρ A n H s.heap ->
  (items.length <= big -> ∀ h' tk o,EX C.T s.heap h' -> GG C H h' -> o.isFreed = false -> IterOk C (Hide H h'.objs.size) h'.objs.size items 0 (h'.push o) -> Q (.ref h'.objs.size) { s with heap:=h'.push o,toks:=tk }) ->
  wpAny (model C.prog C.w) A (eval x env) (fun v s₁ => wpAny (model C.prog C.w) A (pyIter v) Q Ex s₁) Ex s
noncomputable def SndL (C:Cx) (F:Str -> List RV -> Option PyData) (n:Nat) (e:E):Prop:=∀ {lam:Option Pos} {Γ:List (Str × NameKind)} {env:Env} {ρ:List RV} {xs:List PySem.Expr} {ds:List PyData} {A:Around} {H:Addr -> Prop} {s:Shared} {Q:List Value -> Shared -> Prop} {Ex:Value -> Shared -> Prop},
 isXs C.G lam e false Γ env.scope xs = true -> evL F e ρ = some ds -> Here C lam Γ env ρ A n H s.heap ->
  (∀ vs h' tk,EX C.T s.heap h' -> GG C H h' -> Rds H h' vs ds -> Q vs { s with heap:=h',toks:=tk }) -> wpAny (model C.prog C.w) A (spliced (starEach xs env)) Q Ex s
noncomputable def SndBV (C:Cx) (F:Str -> List RV -> Option PyData) (n:Nat) (e:E):Prop:=∀ {lam:Option Pos} {Γ:List (Str × NameKind)} {env:Env} {ρ:List RV} {xs:List PySem.Expr} {x0 d:PyData} {A:Around} {H:Addr -> Prop} {s:Shared} {Q:Value -> Shared -> Prop} {Ex:Value -> Shared -> Prop} {pos:Pos} (isAnd:Bool),
 isXs C.G lam e false Γ env.scope xs = true -> xs ≠ [] -> evB F isAnd e ρ x0 = some d -> Here C lam Γ env ρ A n H s.heap -> KD C H s Q d ->
  wpAny (model C.prog C.w) A (boolOp pos (if isAnd then .And else .Or) (evalEach xs env)) Q Ex s
noncomputable def SndBC (C:Cx) (F:Str -> List RV -> Option PyData) (n:Nat) (e:E):Prop:=∀ {lam:Option Pos} {Γ:List (Str × NameKind)} {env:Env} {ρ:List RV} {xs:List PySem.Expr} {x0 d:PyData} {A:Around} {H:Addr -> Prop} {s:Shared} {Q:Bool -> Shared -> Prop} {Ex:Value -> Shared -> Prop} (isAnd:Bool),
 isXs C.G lam e true Γ env.scope xs = true -> (xs = [] -> truth x0 = isAnd) -> evB F isAnd e ρ x0 = some d -> Here C lam Γ env ρ A n H s.heap ->
  (∀ h' tk,EX C.T s.heap h' -> GG C H h' -> Q (truth d) { s with heap:=h',toks:=tk }) -> wpAny (model C.prog C.w) A (allTrue (if isAnd then .And else .Or) xs env) Q Ex s
structure Snd (C:Cx) (F:Str -> List RV -> Option PyData) (n:Nat) (e:E):Prop where
 v:SndV C F n e
 c:SndC C F n e
 i:SndI C F n e
 l:SndL C F n e
 bv:SndBV C F n e
 bc:SndBC C F n e
theorem isX_star {G:GC} {lam:Option Pos} {t:Bool} {Γ:List (Str × NameKind)} {sc:Scope} {v:PySem.Expr} {p:Pos} (e:E):isX G lam e t Γ sc (.Starred v p) = false:=by
 cases e <;> first | rfl | (cases t <;> rfl) | kernel_rfl | (rw [isX_comp_eq]; rfl)
theorem notStar {G:GC} {lam:Option Pos} {e:E} {t:Bool} {Γ:List (Str × NameKind)} {sc:Scope} {x:PySem.Expr} {r:List PySem.Expr} {env:Env} (h:isX G lam e t Γ sc x = true):starEach (x :: r) env = (false,eval x env) :: starEach r env:=by
 by_cases k:x.ctorIdx = 22
 ·revert h; exact Expr.Starred.elim (motive_1:=fun x => isX G lam e t Γ sc x = true -> starEach (x :: r) env = (false,eval x env) :: starEach r env) x k (fun v p h => absurd ((isX_star e).symm.trans h) Bool.false_ne_true)
 ·cases x <;> first | rfl | exact (k rfl).elim
noncomputable def plainX:PySem.Expr -> Bool
 | .UnaryOp .Not _ _ => false
 | .BoolOp .. => false
 | .IfExp .. => false
 | .Compare .. => false
 | _ => true
theorem isTrue_of_plain {x:PySem.Expr} (h:plainX x = true) (env:Env) (whole:Sem Value):isTrue x env whole = (do let v <- whole; standAt x.pos; holding [v] (truthy v)):=by
 cases x <;> first | rfl | (cases h; done) | (rename_i op _ _; cases op <;> first | rfl | (cases h; done))
noncomputable def notList:E -> Bool
 | .nil => false
 | .cons .. => false
 | _ => true
noncomputable def notRng:E -> Bool
 | .rng .. => false
 | _ => true
theorem isXs_nl {G:GC} {lam:Option Pos} {e:E} {t:Bool} {Γ:List (Str × NameKind)} {sc:Scope} {xs:List PySem.Expr} (h:notList e = true):isXs G lam e t Γ sc xs = false:=by
 cases e <;> first | rfl | (cases h; done)
theorem isXs_nil {G:GC} {lam:Option Pos} {e:E} {t:Bool} {Γ:List (Str × NameKind)} {sc:Scope} (h:isXs G lam e t Γ sc [] = true):e = .nil:=by
 by_cases k:e.ctorIdx = 0
 ·exact E.nil.elim (motive:=fun e => e = .nil) e k rfl
 ·cases e <;> first | exact (k rfl).elim | exact (Bool.false_ne_true h).elim
theorem isXs_cons {G:GC} {lam:Option Pos} {e:E} {t:Bool} {Γ:List (Str × NameKind)} {sc:Scope} {x:PySem.Expr} {xs:List PySem.Expr} (h:isXs G lam e t Γ sc (x :: xs) = true):∃ a b,e = .cons a b:=by
 cases e <;> first | exact ⟨_,_,rfl⟩ | exact (Bool.false_ne_true h).elim
theorem isI_nr {G:GC} {lam:Option Pos} {e:E} {Γ:List (Str × NameKind)} {sc:Scope} {x:PySem.Expr} (h:notRng e = true):isI G lam e Γ sc x = isX G lam e false Γ sc x:=by
 cases e <;> first | rfl | (cases h; done)
section
variable {C:Cx} {F:Str -> List RV -> Option PyData} {n:Nat}
theorem items_len {H:Addr -> Prop} {h:Heap} {v:Value} {d:PyData} {items:List PyData} (hi:itemsD d = some items) (r:Rd H h v d):items.length <= big:=by
 refine stl_el hi (fun x r0 hi => ?_) (fun xs r0 hi => ?_) fun xs r0 hi => ?_ <;> (obtain rfl:=r0; cases hi)
 ·exact xEA r.str_inv fun t _ o => by rw [List.length_map]; exact o.2
 ·exact xEEAAA r.list_inv fun _ _ _ hz _ _ => hz
 ·exact xEEAAA r.tuple_inv fun _ _ _ hz _ _ => hz
theorem SndV.i {e:E} (v:SndV C F n e) (h:notRng e = true):SndI C F n e:=by
 intro lam Γ env ρ x d items A H s Q Ex hx hev hi hr k
 rw [isI_nr h] at hx
 exact v hx hev hr fun va h' tk ke g ra => op_iter hi ra g fun o ho it => k (items_len hi ra) h' tk o ke g ho it
theorem Snd.of {e:E} (hn:notList e = true) (hr:notRng e = true) (v:SndV C F n e) (c:SndC C F n e):Snd C F n e:=
 ⟨v,c,SndV.i v hr,(by intro _ _ _ _ _ _ _ _ _ _ _ h; rw [isXs_nl hn] at h; cases h),
  (by intro _ _ _ _ _ _ _ _ _ _ _ _ _ _ h; rw [isXs_nl hn] at h; cases h),by intro _ _ _ _ _ _ _ _ _ _ _ _ _ h; rw [isXs_nl hn] at h; cases h⟩
theorem Snd.ofV {e:E} (hn:notList e = true) (hr:notRng e = true) (hp:∀ lam Γ sc x,isX C.G lam e true Γ sc x = true -> isX C.G lam e false Γ sc x = true /\ plainX x = true) (v:SndV C F n e):Snd C F n e:=
 Snd.of hn hr v (by
  intro lam Γ env ρ x d A H s Q Ex hx hev hr k
  obtain ⟨h1,h2⟩:=hp _ _ _ _ hx
  exact isTrue_plain (v h1 hev hr fun va h' tk ke g ra => op_truthy ra fun tk' => k h' tk' ke g) (isTrue_of_plain h2 _ _))
theorem nameOk_inv {Γ:List (Str × NameKind)} {env:Env} {i:Nat} {x:Str} (h:nameOk Γ env.scope i x = true):∃ k,Γ[i]? = some (x,k) /\ env.kindOf x = some k /\ (k = .local \/ k = .cell) /\ (x == ("__debug__":Str)) = false:=by
 unfold nameOk isDbg lk at h
 simp only [Bool.and_eq_true,beq_iff_eq,Bool.or_eq_true,Bool.not_eq_true'] at h
 obtain ⟨⟨h1,h2⟩,h3⟩:=h
 rcases h2 with h2 | h2 <;> rw [h2] at h1
 ·exact ⟨_,h1,h2,.inl rfl,h3⟩
 ·exact ⟨_,h1,h2,.inr rfl,h3⟩
theorem load_var {lam:Option Pos} {Γ:List (Str × NameKind)} {env:Env} {ρ:List RV} {A:Around} {H:Addr -> Prop} {s:Shared} {Q:Value -> Shared -> Prop} {Ex:Value -> Shared -> Prop} {i:Nat} {x:Str} {p:Pos}
  (hx:nameOk Γ env.scope i x = true) (hr:Here C lam Γ env ρ A n H s.heap) (hu:getRV ρ i ≠ .un) (k:∀ v,RVok H s.heap v (getRV ρ i) -> Q v s):wpAny (model C.prog C.w) A (eval (.Name x p) env) Q Ex s:=by
 refine xEAAA (nameOk_inv hx) fun kd h1 h2 h3 h4 => ?_
 rcases hr.fr.val i x kd h1 h2 with h | ⟨v,l,r⟩
 ·exact (hu h).elim
 ·refine wpAny_Name ?_ h4
  rcases l with ⟨rfl,_,m,hn,hm⟩ | ⟨rfl,c,_,hc,hv⟩
  ·exact wpAny_loadName_local hr.fr.kind h2 hn hm (k v r)
  ·exact wpAny_loadName_cell hr.fr.kind h2 hc hv (k v r)
theorem gname_inv {env:Env} {x:Str} (h:gname env.scope x = true):env.kindOf x = some .globalImplicit /\ (x == ("__debug__":Str)) = false:=by
 unfold gname isDbg lk at h
 simp only [Bool.and_eq_true,beq_iff_eq,Bool.not_eq_true'] at h
 exact h
theorem load_glob {lam:Option Pos} {Γ:List (Str × NameKind)} {env:Env} {ρ:List RV} {A:Around} {H:Addr -> Prop} {s:Shared} {Q:Value -> Shared -> Prop} {Ex:Value -> Shared -> Prop} {x:Str} {p:Pos} {v:Value}
  (K:CxOk C) (hx:gname env.scope x = true) (hr:Here C lam Γ env ρ A n H s.heap) (hv:C.mg x = some v) (k:Q v s):wpAny (model C.prog C.w) A (eval (.Name x p) env) Q Ex s:=by
 obtain ⟨h1,h2⟩:=gname_inv hx
 exact PySem.Calls.Name_function_global hr.fr.kind h1 (PySem.Calls.loadGlobal_global (by rw [hr.fr.glob]; exact hr.gg.ns K) hv k) h2
theorem load_bui {lam:Option Pos} {Γ:List (Str × NameKind)} {env:Env} {ρ:List RV} {A:Around} {H:Addr -> Prop} {s:Shared} {Q:Value -> Shared -> Prop} {Ex:Value -> Shared -> Prop} {x:Str} {p:Pos} {v:Value}
  (K:CxOk C) (hx:gname env.scope x = true) (hr:Here C lam Γ env ρ A n H s.heap) (hm:x ∈ (["len","sum","min","chr","range","isinstance","str"]:List Str)) (hn:x ≠ "__name__") (hv:bootBuiltins x = some v) (k:Q v s) :
  wpAny (model C.prog C.w) A (eval (.Name x p) env) Q Ex s:=by
 obtain ⟨h1,h2⟩:=gname_inv hx
 exact PySem.Calls.Name_function_global hr.fr.kind h1 (PySem.Calls.loadGlobal_builtin (by rw [hr.fr.glob]; exact hr.gg.ns K) (K.free x hm) (by rw [hr.fr.bui]; exact hr.gg.bs K) (by rw [K.bi x hn]; exact hv) k) h2
theorem s_var {i:Nat}:Snd C F n (.var i):=Snd.ofV rfl rfl (fun _ _ _ x h => ⟨h,vNm_elim (motive:=fun x => plainX x = true) h fun _ _ _ => rfl⟩) (by
 intro lam Γ env ρ x d A H s Q Ex hx hev hr k
 apply vNm_elim (x:=x) hx; intro z1 z2 hx
 ·replace hev:valRV (getRV ρ i) = some d:=hev
  refine xEA (dR_inv hev) fun y e hev => ?_
  ·cases hev
   refine load_var hx hr (by rw [e]; exact fun h => by cases h) fun v r => ?_
   rw [e] at r
   exact k.now (tk:=s.toks) hr.gg r)
theorem s_none:Snd C F n .none:=Snd.ofV rfl rfl (fun _ _ _ x h => ⟨h,vNone_elim (motive:=fun x => plainX x = true) h fun _ _ => rfl⟩) (by
 intro lam Γ env ρ x d A H s Q Ex hx hev hr k
 apply vNone_elim (x:=x) hx; intro z1 z2
 ·cases hev
  exact fun _ _ _ => k.now hr.gg .none)
theorem s_bool {b:Bool}:Snd C F n (.bool b):=Snd.ofV rfl rfl (fun _ _ _ x h => ⟨h,vBoo_elim (motive:=fun x => plainX x = true) h fun _ _ _ _ => rfl⟩) (by
 intro lam Γ env ρ x d A H s Q Ex hx hev hr k
 apply vBoo_elim (x:=x) hx; intro z1 z2 z3 hx
 ·cases hev
  rw [beq_iff_eq] at hx; subst hx
  exact fun _ _ _ => k.now hr.gg (.bool _))
theorem s_int {i:Int}:Snd C F n (.int i):=Snd.ofV rfl rfl (fun _ _ _ x h => ⟨h,vInt_elim (motive:=fun x => plainX x = true) h fun _ _ _ _ => rfl⟩) (by
 intro lam Γ env ρ x d A H s Q Ex hx hev hr k
 apply vInt_elim (x:=x) hx; intro z1 z2 z3 hx
 ·cases hev
  rw [beq_iff_eq] at hx; subst hx
  exact wpAny_Constant_int (k.now hr.gg (.int _ _)))
theorem s_str {y:Str}:Snd C F n (.str y):=Snd.ofV rfl rfl (fun _ _ _ x h => ⟨h,vStr_elim (motive:=fun x => plainX x = true) h fun _ _ _ _ => rfl⟩) (by
 intro lam Γ env ρ x d A H s Q Ex hx hev hr k
 apply vStr_elim (x:=x) hx; intro z1 z2 z3 hx
 ·cases hev
  simp only [Bool.and_eq_true,beq_iff_eq,decide_eq_true_eq] at hx
  obtain ⟨⟨rfl,h1⟩,h2⟩:=hx
  exact PySem.Calls.Constant_str (k.now hr.gg (.str _ _ ⟨h1,h2⟩)))
theorem s_gstr (K:CxOk C) {nm y:Str}:Snd C F n (.gstr nm y):=Snd.ofV rfl rfl (fun _ _ _ x h => ⟨h,vNm_elim (motive:=fun x => plainX x = true) h fun _ _ _ => rfl⟩) (by
 intro lam Γ env ρ x d A H s Q Ex hx hev hr k
 apply vNm_elim (x:=x) hx; intro z1 z2 hx
 ·cases hev
  simp only [Bool.and_eq_true,beq_iff_eq,List.contains_iff_mem] at hx
  obtain ⟨⟨rfl,h1⟩,h2⟩:=hx
  refine xAE (K.con _ _ h2) fun ok t hm => ?_
  exact load_glob K h1 hr hm (k.now (tk:=s.toks) hr.gg (.str _ _ ok)))
theorem s_neg {a:E} (ia:Snd C F n a):Snd C F n (.neg a):=Snd.ofV rfl rfl (fun _ _ _ x h => ⟨h,vUSub_elim (motive:=fun x => plainX x = true) h fun _ _ _ => rfl⟩) (by
 intro lam Γ env ρ x d A H s Q Ex hx hev hr k
 apply vUSub_elim (x:=x) hx; intro z1 z2 hx
 ·refine obind hev fun y ea hev => ?_
  exact wpAny_UnaryOp (ia.v hx ea hr fun va h' tk ke g ra => op_neg hev ra g (k.after ke)))
theorem s_bin {op:Operator} {a b:E} (ia:Snd C F n a) (ib:Snd C F n b):Snd C F n (.bin op a b):=Snd.ofV rfl rfl (fun _ _ _ x h => ⟨h,vBin_elim (motive:=fun x => plainX x = true) h fun _ _ _ _ _ => rfl⟩) (by
 intro lam Γ env ρ x d A H s Q Ex hx hev hr k
 apply vBin_elim (x:=x) hx; intro z1 z2 z3 z4 hx
 ·refine obind hev fun y ea hev => ?_
  refine obind hev fun z eb hev => ?_
  refine ba3 hx fun e0 h1 h2 => ?_
  obtain rfl:=eq_of_beq e0
  exact wpAny_BinOp (ia.v h1 ea hr fun va h' tk ke g ra => ib.v h2 eb (hr.ex ke g) fun vb h'' tk' ke' g' rb =>
   op_bin hev (ra.ex ke' g.hid) rb hr.ao g' (k.after (ke.trans ke'))))
theorem s_cmp {op:CmpOp} {a b:E} (ia:Snd C F n a) (ib:Snd C F n b):Snd C F n (.cmp op a b):=Snd.of rfl rfl (by
 intro lam Γ env ρ x d A H s Q Ex hx hev hr k
 apply vCmp1_elim (x:=x) hx; intro z1 z2 z3 z4 hx
 ·refine obind hev fun y ea hev => ?_
  refine obind hev fun z eb hev => ?_
  refine xEA (Option.map_eq_some_iff.mp hev) fun r er r2 => ?_
  obtain rfl:=r2
  simp only [Bool.and_eq_true,beq_iff_eq,Bool.not_eq_true'] at hx
  obtain ⟨⟨⟨rfl,h0⟩,h1⟩,h2⟩:=hx
  exact wpAny_Compare1 (ia.v h1 ea hr fun va h' tk ke g ra => ib.v h2 eb (hr.ex ke g) fun vb h'' tk' ke' g' rb =>
   op_cmp er (ra.ex ke' g.hid) rb hr.ao g' (k _ _ _ (ke.trans ke') g' (.bool _))) h0) (by
 intro lam Γ env ρ x d A H s Q Ex hx hev hr k
 apply vCmp1_elim (x:=x) hx; intro z1 z2 z3 z4 hx
 ·refine obind hev fun y ea hev => ?_
  refine obind hev fun z eb hev => ?_
  refine xEA (Option.map_eq_some_iff.mp hev) fun r er r2 => ?_
  obtain rfl:=r2
  simp only [Bool.and_eq_true,beq_iff_eq,Bool.not_eq_true'] at hx
  obtain ⟨⟨⟨rfl,h0⟩,h1⟩,h2⟩:=hx
  exact wpAny_isTrue_Compare1 (ia.v h1 ea hr fun va h' tk ke g ra => ib.v h2 eb (hr.ex ke g) fun vb h'' tk' ke' g' rb =>
   op_cmp er (ra.ex ke' g.hid) rb hr.ao g' (op_truthy (H:=H) (.bool r) fun tk2 => k _ tk2 (ke.trans ke') g')) h0)
theorem s_not {a:E} (ia:Snd C F n a):Snd C F n (.not_ a):=Snd.of rfl rfl (by
 intro lam Γ env ρ x d A H s Q Ex hx hev hr k
 exact (Bool.false_ne_true hx).elim) (by
 intro lam Γ env ρ x d A H s Q Ex hx hev hr k
 apply vNot_elim (x:=x) hx; intro z1 z2 hx
 ·refine obind hev fun y ea hev => ?_
  cases hev
  exact wpAny_isTrue_Not (ia.c hx ea hr fun h' tk ke g => k h' tk ke g))
theorem s_ite {c a b:E} (ic:Snd C F n c) (ia:Snd C F n a) (ib:Snd C F n b):Snd C F n (.ite c a b):=Snd.of rfl rfl (by
 intro lam Γ env ρ x d A H s Q Ex hx hev hr k
 apply vIf_elim (x:=x) hx; intro z1 z2 z3 z4 hx
 ·refine obind hev fun y ec hev => ?_
  simp only [Bool.and_eq_true,Bool.not_false,Bool.true_and,true_and] at hx
  obtain ⟨⟨h0,h1⟩,h2⟩:=hx
  refine wpAny_IfExp (ic.c h0 ec hr fun h' tk ke g => ?_)
  cases ht:truth y with
  | true => rw [ht,if_pos rfl] at hev; rw [if_pos rfl]; exact ia.v h1 hev (hr.ex ke g) (k.after ke)
  | false => rw [ht] at hev; exact ib.v h2 hev (hr.ex ke g) (k.after ke)) (by
 intro lam Γ env ρ x d A H s Q Ex hx hev hr k
 exact (Bool.false_ne_true hx).elim)
theorem isXs_len {G:GC} {lam:Option Pos} {t:Bool} {Γ:List (Str × NameKind)} {sc:Scope} {ρ:List RV}:∀ {es:E} {ys:List PySem.Expr} {ds:List PyData},isXs G lam es t Γ sc ys = true -> evL F es ρ = some ds -> ds.length = ys.length:=by
 intro es ys
 induction ys generalizing es with
 | nil =>
  intro ds h1 h2
  obtain rfl:=isXs_nil h1
  cases h2; rfl
 | cons y ys ih =>
  intro ds h1 h2
  refine xEE (isXs_cons h1) fun a b r2 => ?_
  obtain rfl:=r2
  refine obind h2 fun x _ h2 => ?_
  refine xEA (Option.map_eq_some_iff.mp h2) fun r er r2 => ?_
  obtain rfl:=r2
  exact congrArg (· + 1) (ih (Bool.and_eq_true_iff.mp h1).2 er)
theorem stars_plain {G:GC} {lam:Option Pos} {t:Bool} {Γ:List (Str × NameKind)} {sc:Scope} {env:Env}:∀ {es:E} {ys:List PySem.Expr},isXs G lam es t Γ sc ys = true -> ∀ y ∈ starEach ys env,y.1 = false:=by
 intro es ys
 induction ys generalizing es with
 | nil => intro _ y hy; cases hy
 | cons y ys ih =>
  intro h1 z hz
  refine xEE (isXs_cons h1) fun a b r2 => ?_
  obtain rfl:=r2
  refine ba2 h1 fun h2 h3 => ?_
  rw [notStar h2] at hz
  rcases List.mem_cons.mp hz with rfl | hz
  ·rfl
  ·exact ih h3 z hz
theorem backTo_self {pos:Pos} {l:List (Bool × Sem Value)} (h:∀ x ∈ l,x.1 = false):backTo pos l = l:=by
 unfold backTo
 apply map_eq_self
 intro x hx
 obtain ⟨b,t⟩:=x
 have:b = false:=h _ hx
 subst this; rfl
theorem s_tup {es:E} (il:Snd C F n es):Snd C F n (.tup es):=Snd.ofV rfl rfl (fun _ _ _ x h => ⟨h,vTup_elim (motive:=fun x => plainX x = true) h fun _ _ _ _ => rfl⟩) (by
 intro lam Γ env ρ x d A H s Q Ex hx hev hr k
 apply vTup_elim (x:=x) hx; intro z1 z2 z3 hx
 ·refine xEA (Option.map_eq_some_iff.mp hev) fun ds el r2 => ?_
  obtain rfl:=r2
  rw [Bool.and_eq_true,decide_eq_true_eq] at hx
  have hl:=isXs_len hx.1 el
  refine Tuple_ ?_
  rw [backTo_self (stars_plain hx.1)]
  have hb:big = 1000000:=rfl
  refine il.l hx.1 el hr fun vs h' tk ke g rs => wpAny_newTuple ((k.after ke).push g _ (new_tuple (s:={ s with heap:=h',toks:=tk }) g (by simpa using rs) (by lia))) (by rw [rs.length]; have:sizeLine = 16777216:=rfl; lia))
theorem s_lst {es:E} (il:Snd C F n es):Snd C F n (.lst es):=Snd.ofV rfl rfl (fun _ _ _ x h => ⟨h,vLst_elim (motive:=fun x => plainX x = true) h fun _ _ _ => rfl⟩) (by
 intro lam Γ env ρ x d A H s Q Ex hx hev hr k
 apply vLst_elim (x:=x) hx; intro z1 z2 hx
 ·refine xEA (Option.map_eq_some_iff.mp hev) fun ds el r2 => ?_
  obtain rfl:=r2
  rw [Bool.and_eq_true,decide_eq_true_eq] at hx
  have hl:=isXs_len hx.1 el
  refine List_ ?_
  rw [backTo_self (stars_plain hx.1)]
  have hb:big = 1000000:=rfl
  refine il.l hx.1 el hr fun vs h' tk ke g rs => wpAny_newList ((k.after ke).push g _ (new_list (s:={ s with heap:=h',toks:=tk }) g (by simpa using rs) (by lia))) (by rw [rs.length]; have:sizeLine = 16777216:=rfl; lia))
end
section
variable {C:Cx} {F:Str -> List RV -> Option PyData} {n:Nat}
theorem s_idx {a b:E} (ia:Snd C F n a) (ib:Snd C F n b):Snd C F n (.idx a b):=Snd.ofV rfl rfl (fun _ _ _ x h => ⟨h,vSub_elim (motive:=fun x => plainX x = true) h fun _ _ _ _ => rfl⟩) (by
 intro lam Γ env ρ x d A H s Q Ex hx hev hr k
 apply vSub_elim (x:=x) hx; intro z1 z2 z3 hx
 ·refine obind hev fun y ea hev => ?_
  refine obind hev fun z eb hev => ?_
  refine ba3 hx fun h0 h1 h2 => ?_
  have hs:isSl z2 = false:=by simpa using h0
  exact Subscript_ (ia.v h1 ea hr fun va h' tk ke g ra => ib.v h2 eb (hr.ex ke g) fun vb h'' tk' ke' g' rb =>
   op_idx hs hev (ra.ex ke' g.hid) rb g' (k.after (ke.trans ke'))))
theorem s_part {e:E} (ie:Snd C F n e) {lam:Option Pos} {Γ:List (Str × NameKind)} {env:Env} {ρ:List RV} {A:Around} {H:Addr -> Prop} {s:Shared} {Q:Value -> Shared -> Prop} {Ex:Value -> Shared -> Prop} {d:PyData} {o:Option Int} {l:Option PySem.Expr}
  (hx:partX e (isX C.G lam e false Γ env.scope) l = true) (hev:evE F e ρ = some d) (ho:optI d = some o) (hr:Here C lam Γ env ρ A n H s.heap)
  (k:∀ v h' tk,EX C.T s.heap h' -> GG C H h' -> PartOf v o -> Q v { s with heap:=h',toks:=tk }):wpAny (model C.prog C.w) A (evalPart l env) Q Ex s:=by
 cases l with
 | none =>
  rw [evalPart_none]
  obtain rfl:=isNoneE_inv hx
  cases hev; cases ho
  exact wpAny_pure (k _ _ _ (EX.refl _) hr.gg rfl)
 | some l =>
  rw [evalPart_some]
  refine ie.v hx hev hr fun v h' tk ke g r => k v h' tk ke g ?_
  exact optI_el ho (fun i r0 e => by subst r0; subst e; exact r.int_inv) fun r0 e => by subst r0; subst e; exact r.none_inv
theorem s_slc {a lo hi:E} (ia:Snd C F n a) (il:Snd C F n lo) (ih:Snd C F n hi):Snd C F n (.slc a lo hi):=Snd.ofV rfl rfl (fun _ _ _ x h => ⟨h,vSlc_elim (motive:=fun x => plainX x = true) h fun _ _ _ _ _ _ => rfl⟩) (by
 intro lam Γ env ρ x d A H s Q Ex hx hev hr k
 apply vSlc_elim (x:=x) hx; intro z1 z2 z3 z4 z5 hx
 ·refine obind hev fun y ea hev => ?_
  refine obind hev fun ol el hev => ?_
  refine obind hev fun oh eh hev => ?_
  refine xEA (Option.bind_eq_some_iff.mp el) fun dl el ol' => ?_
  refine xEA (Option.bind_eq_some_iff.mp eh) fun dh eh oh' => ?_
  refine ba3 hx fun h0 h1 h2 => ?_
  refine Subscript_ (ia.v h0 ea hr fun va h' tk ke g ra => wpAny_Slice (s_part il h1 el ol' (hr.ex ke g) fun vl h'' tk' ke' g' pl => s_part ih h2 eh oh' ((hr.ex ke g).ex ke' g') fun vh h3 tk3 ke3 g3 ph => ?_))
  rw [evalPart_none]
  refine wpAny_pure ?_
  exact op_slc (s:={ s with heap:=h3,toks:=tk3 }) hev ((ra.ex ke' g.hid).ex ke3 g.hid) pl ph g3 (k.after ((ke.trans ke').trans ke3)))
theorem call_b1 {a:E} (K:CxOk C) (ia:Snd C F n a) {lam:Option Pos} {Γ:List (Str × NameKind)} {env:Env} {ρ:List RV} {A:Around} {H:Addr -> Prop} {s:Shared} {Q:Value -> Shared -> Prop} {Ex:Value -> Shared -> Prop} {y:PyData} {f:Str} {id:String} {p pos:Pos} {x:PySem.Expr}
  (hf:gname env.scope f = true) (hm:f ∈ (["len","sum","min","chr","range","isinstance","str"]:List Str)) (hn:f ≠ "__name__") (hv:bootBuiltins f = some (.builtin id)) (hx:isX C.G lam a false Γ env.scope x = true) (ea:evE F a ρ = some y) (hr:Here C lam Γ env ρ A n H s.heap)
  (k:∀ v h' tk,EX C.T s.heap h' -> GG C H h' -> Rd H h' v y -> wpAny (model C.prog C.w) A (call (.builtin id) [v]) Q Ex { s with heap:=h',toks:=tk }):wpAny (model C.prog C.w) A (eval (.Call (.Name f p) [x] [] pos) env) Q Ex s:=by
 refine Call_name1 (by rw [notStar hx]; rfl) (load_bui K hf hr hm hn hv ?_)
 exact PySem.callWith_builtin1 (ia.v hx ea hr fun va h' tk ke g ra => k va h' tk ke g ra)
theorem s_len (K:CxOk C) {a:E} (ia:Snd C F n a):Snd C F n (.len a):=Snd.ofV rfl rfl (fun _ _ _ x h => ⟨h,vCallN1_elim (motive:=fun x => plainX x = true) h fun _ _ _ _ _ => rfl⟩) (by
 intro lam Γ env ρ x d A H s Q Ex hx hev hr k
 apply vCallN1_elim (x:=x) hx; intro z1 z2 z3 z4 hx
 ·refine obind hev fun y ea hev => ?_
  refine ba3 hx fun e0 h1 h2 => ?_
  obtain rfl:=eq_of_beq e0
  exact call_b1 K ia h1 (by decide) (by decide) rfl h2 ea hr fun va h' tk ke g ra => op_len hev ra g (k.after ke))
theorem s_chr (K:CxOk C) {a:E} (ia:Snd C F n a):Snd C F n (.chr_ a):=Snd.ofV rfl rfl (fun _ _ _ x h => ⟨h,vCallN1_elim (motive:=fun x => plainX x = true) h fun _ _ _ _ _ => rfl⟩) (by
 intro lam Γ env ρ x d A H s Q Ex hx hev hr k
 apply vCallN1_elim (x:=x) hx; intro z1 z2 z3 z4 hx
 ·refine obind hev fun y ea hev => ?_
  refine ba3 hx fun e0 h1 h2 => ?_
  obtain rfl:=eq_of_beq e0
  exact call_b1 K ia h1 (by decide) (by decide) rfl h2 ea hr fun va h' tk ke g ra => op_chr hev ra g (k.after ke))
theorem s_call (K:CxOk C) (KF:FnsOk C) (FO:FOk C F n) {f:Str} {es:E} (il:Snd C F n es):Snd C F n (.call f es):=Snd.ofV rfl rfl (fun _ _ _ x h => ⟨h,vCallN_elim (motive:=fun x => plainX x = true) h fun _ _ _ _ _ => rfl⟩) (by
 intro lam Γ env ρ x d A H s Q Ex hx hev hr k
 apply vCallN_elim (x:=x) hx; intro z1 z2 z3 z4 hx
 ·refine obind hev fun ds el hev => ?_
  simp only [Bool.and_eq_true,beq_iff_eq,List.contains_iff_mem,decide_eq_true_eq,Bool.not_eq_true'] at hx
  obtain ⟨⟨⟨⟨⟨rfl,h1⟩,h2⟩,h3⟩,h4⟩,h5⟩:=hx
  refine xEEEAAA (KF _ h2) fun a o fd hm ho hd hT => ?_
  refine wpAny_Call_NameR (load_glob K h1 hr hm ?_)
  rw [backTo_self (stars_plain h4)]
  refine PySem.Calls.callWith_function (o:=o) (fd:=fd) ?_
  cases z3 with
  | nil => cases h5
  | cons y q =>
   have hs:starEach (y :: q) env = (false,eval y env) :: starEach q env:=by
    refine xEE (isXs_cons h4) fun a' b' r2 => ?_
    obtain rfl:=r2
    exact notStar (Bool.and_eq_true_iff.mp h4).1
   rw [hs]
   refine PySem.Calls.evalArgs_plain ?_
   rw [<- hs]
   refine il.l h4 el hr fun vs h' tk ke g rs => ⟨⟨g.base a o hT ho,hd⟩,?_⟩
   refine FO _ _ d hev h2 A (hr.ao.less (Nat.le_succ n)) H _ vs Q Ex g (by rw [rs.length,List.length_map]) (fun i rv v h1 h2 => ?_) (k.after ke) a hm
   refine xEA (rs.get' h2) fun dd e1 e2 => ?_
   rw [List.getElem?_map,e1] at h1
   cases h1
   exact e2)
theorem s_callm (K:CxOk C) (KF:FnsOk C) (FO:FOk C F n) {f:Str} {i:Nat}:Snd C F n (.callm f i):=Snd.ofV rfl rfl (fun _ _ _ x h => ⟨h,vCallNM_elim (motive:=fun x => plainX x = true) h fun _ _ _ _ _ _ => rfl⟩) (by
 intro lam Γ env ρ x d A H s Q Ex hx hev hr k
 apply vCallNM_elim (x:=x) hx; intro z1 z2 z3 z4 z5 hx
 ·simp only [Bool.and_eq_true,beq_iff_eq,List.contains_iff_mem] at hx
  obtain ⟨⟨⟨rfl,h1⟩,h2⟩,h3⟩:=hx
  refine xEEEAAA (KF _ h2) fun a o fd hm ho hd hT => ?_
  replace hev:(if isMt (getRV ρ i) = true then F z1 [getRV ρ i] else none) = some d:=hev
  split at hev
  ·rename_i hmt
   refine wpAny_Call_NameR (load_glob K h1 hr hm ?_)
   refine PySem.Calls.callWith_function (o:=o) (fd:=fd) ?_
   refine PySem.Calls.evalArgs_plain ?_
   refine PySem.Calls.spliced_cons ?_
   refine load_var h3 hr (fun e => by rw [e] at hmt; cases hmt) fun v r => ?_
   refine PySem.Calls.spliced_nil ⟨⟨hr.gg.base a o hT ho,hd⟩,?_⟩
   refine FO _ _ d hev h2 A (hr.ao.less (Nat.le_succ n)) H _ [v] Q Ex hr.gg rfl (fun i rv w h1 h2 => ?_) k a hm
   cases i with
   | zero => simp at h1 h2; subst h1 h2; exact r
   | succ i => simp at h1
  ·cases hev)
theorem ab_notCall {o:PySem.Expr} {nm:Str} {env:Env} (h:notCall o = true):attributeBase o nm env (eval o env) = eval o env:=by
 cases o <;> first | rfl | (cases h; done) | (rename_i f _ _ _; cases f <;> first | rfl | (cases h; done))
theorem s_meth {m:Str} {a es:E} (ia:Snd C F n a) (il:Snd C F n es):Snd C F n (.meth m a es):=Snd.ofV rfl rfl (fun _ _ _ x h => ⟨h,vCallA_elim (motive:=fun x => plainX x = true) h fun _ _ _ _ _ _ => rfl⟩) (by
 intro lam Γ env ρ x d A H s Q Ex hx hev hr k
 apply vCallA_elim (x:=x) hx; intro z1 z2 z3 z4 z5 hx
 ·refine obind hev fun y ea hev => ?_
  refine obind hev fun ds el hev => ?_
  refine ba7 hx fun h0 h1 h2 h3 h4 h5 h6 => ?_
  obtain rfl:=eq_of_beq h0
  have h5:=of_decide_eq_true h5
  refine xEAA (meth_all (C:=C) h1) fun id mo sl ty => ?_
  obtain ⟨z,rfl,_⟩:=sP_inv hev
  refine meth_call (ab_notCall h3) (stars_plain h6) (by lia) h2 PySem.F.plainAttrs_str sl ty (ia.v h4 ea hr fun va h' tk ke g ra => ?_)
  refine xEA (ra.str_inv) fun t r1 ok => ?_
  obtain rfl:=r1
  refine ⟨rfl,fun _ e => (by cases e),?_⟩
  refine il.l h6 el (hr.ex ke g) fun vs h'' tk' ke' g' rs => ?_
  exact mo H A _ Q Ex z t vs ds d ok hev rs g' (k.after (ke.trans ke')))
theorem s_fmt1 {a:E} (ia:Snd C F n a):Snd C F n (.fmt1 a):=Snd.ofV rfl rfl (fun _ _ _ x h => ⟨h,vBinS_elim (motive:=fun x => plainX x = true) h fun _ _ _ _ _ _ => rfl⟩) (by
 intro lam Γ env ρ x d A H s Q Ex hx hev hr k
 apply vBinS_elim (x:=x) hx; intro z1 z2 z3 z4 z5 hx
 ·refine obind hev fun y ea hev => ?_
  refine ba2 hx fun e0 h1 => ?_
  obtain rfl:=eq_of_beq e0
  exact wpAny_BinOp (PySem.Calls.Constant_str (ia.v h1 ea hr fun va h' tk ke g ra => op_fmt1 hev ra g (k.after ke))))
theorem fmtS {a:E} (ia:Snd C F n a) {lam:Option Pos} {Γ:List (Str × NameKind)} {env:Env} {ρ:List RV} {A:Around} {H:Addr -> Prop} {s:Shared} {Q:Value -> Shared -> Prop} {Ex:Value -> Shared -> Prop} {x:PySem.Expr} {y:Str} {p:Pos}
  (h:isX C.G lam a false Γ env.scope x = true) (ea:evE F a ρ = some (.str y)) (hr:Here C lam Γ env ρ A n H s.heap) (k:∀ t h' tk,EX C.T s.heap h' -> GG C H h' -> SOk y -> Q (.str y t) { s with heap:=h',toks:=tk }) :
  wpAny (model C.prog C.w) A (eval (.FormattedValue x 115 none p) env) Q Ex s:=by
 refine wpAny_FormattedValue_s (ia.v h ea hr fun v h' tk ke g r => ?_)
 refine xEA (r.str_inv) fun t r1 ok => ?_
 obtain rfl:=r1
 have hl:y.length <= sizeLine:=Nat.le_trans ok.2 big_line
 refine SB.convS_str (s:={ s with heap:=h',toks:=tk }) (fun t' k' => ?_) hl
 exact SB.field_str (s:={ s with heap:=h',toks:=k' }) (fun t2 k2 => k t2 h' k2 ke g ok) hl
theorem s_fmt2 {a b:E} (ia:Snd C F n a) (ib:Snd C F n b):Snd C F n (.fmt2 a b):=Snd.ofV rfl rfl (fun _ _ _ x h => ⟨h,vJF_elim (motive:=fun x => plainX x = true) h fun _ _ _ _ _ _ _ _ _ _ _ => rfl⟩) (by
 intro lam Γ env ρ x d A H s Q Ex hx hev hr k
 apply vJF_elim (x:=x) hx; intro z1 z2 z3 z4 z5 z6 z7 z8 z9 z10 hx
 ·refine obind hev fun y ea hev => ?_
  refine obind hev fun z eb hev => ?_
  refine ba5 hx fun e0 e1 e2 h1 h2 => ?_
  obtain rfl:=eq_of_beq e0
  obtain rfl:=eq_of_beq e1
  obtain rfl:=eq_of_beq e2
  refine xEA (sP_inv hev) fun kx r0 hq1 => ?_
  obtain rfl:=r0
  replace hev:=hq1
  refine xEA (sP_inv hev) fun vx r0 hq2 => ?_
  obtain rfl:=r0
  replace hev:=hq2
  ·obtain ⟨hc,rfl⟩:=ite_some hev
   have hb:big = 1000000:=rfl
   have hs16:sizeLine = 16777216:=rfl
   have e0:(Str.empty:Str) ++ kx = kx:=by rw [str_append]; show mkS ([] ++ tl kx) = kx; rw [List.nil_append,mkS_tl]
   have l1:((Str.empty:Str) ++ kx).length <= sizeLine:=by rw [e0]; show (tl kx).length <= _; lia
   have e1:tl (kx ++ ("=":Str)) = tl kx ++ [61]:=by rw [str_append]; rfl
   have e2:tl (kx ++ ("=":Str) ++ vx) = fmt2L (tl kx) (tl vx):=by rw [str_append,tl_mkS,e1]; unfold fmt2L; simp
   have l2:((Str.empty:Str) ++ kx ++ ("=":Str)).length <= sizeLine:=by rw [e0]; show (tl _).length <= _; rw [e1,List.length_append]; show _ + 1 <= _; lia
   have l3:((Str.empty:Str) ++ kx ++ ("=":Str) ++ vx).length <= sizeLine:=by rw [e0]; show (tl _).length <= _; rw [e2]; unfold fmt2L; rw [List.length_append,List.length_cons]; lia
   refine wpAny_JoinedStr (Joins_cons (fmtS ia h1 ea hr fun t h' tk ke g okx => ⟨kx,t,rfl,l1,Joins_cons (PySem.Calls.Constant_str ⟨_,_,rfl,l2,Joins_cons (fmtS ib h2 eb (hr.ex ke g) fun t2 h'' tk' ke' g' okv => ⟨vx,t2,rfl,l3,Joins_nil ⟨l3,?_⟩⟩)⟩)⟩))
   have:(Str.empty:Str) ++ kx ++ ("=":Str) ++ vx = mkS (fmt2L (tl kx) (tl vx)):=by rw [e0,<- e2,mkS_tl]
   rw [this]
   refine (k.after (ke.trans ke')).now g' (.str _ _ (.mk (fun c hc' => ?_) ?_))
   ·unfold fmt2L at hc'
    rcases List.mem_append.mp hc' with m | m
    ·exact okx.all c m
    ·rcases List.mem_cons.mp m with rfl | m
     ·decide
     ·exact okv.all c m
   ·unfold fmt2L; rw [List.length_append,List.length_cons]; (assumption))
end
section
variable {C:Cx} {F:Str -> List RV -> Option PyData} {n:Nat}
theorem pat_call (K:CxOk C) {p:Pat} {lam:Option Pos} {Γ:List (Str × NameKind)} {env:Env} {ρ:List RV} {A:Around} {H:Addr -> Prop} {s:Shared} {Q:Value -> Shared -> Prop} {Ex:Value -> Shared -> Prop} {nm m:Str} {id:String} {np ap cp:Pos} {args:List PySem.Expr}
  (hn:nm = p.name) (hg:gname env.scope nm = true) (hl:(ap.endLine == cp.line) = true) (hst:∀ x ∈ starEach args env,x.1 = false) (hlen:args.length < 29) (sl:Slot "re.Pattern" m id) (ty:typeOf (.builtin id) = pure (.type "method_descriptor"))
  (hr:Here C lam Γ env ρ A n H s.heap) (k:∀ pa,(∀ h',EX C.T s.heap h' -> GG C H h' -> IsPat h' pa p.code p.groups) -> wpAny (model C.prog C.w) A (spliced (starEach args env)) (fun vs s₂ => wpAny (model C.prog C.w) A (call (.builtin id) (.ref pa :: vs)) Q Ex s₂) Ex s) :
  wpAny (model C.prog C.w) A (eval (.Call (.Attribute (.Name nm np) m ap) args [] cp) env) Q Ex s:=by
 subst hn
 refine xEA (K.pat p) fun pa hm hp => ?_
 refine meth_call rfl hst hlen hl pa_pat sl ty (load_glob K hg hr hm ?_)
 have hp0:=hp _ hr.gg.base
 refine ⟨hp0.type,fun a e => ?_,k pa fun h' ke g => hp _ g.base⟩
 cases e
 refine xEEEEEEEAA (hp0.ex) fun x0 x1 x3 x4 tp ob n e1 _ _ => ?_
 exact ⟨_,e1,rfl⟩
theorem mat_call {lam:Option Pos} {Γ:List (Str × NameKind)} {env:Env} {ρ:List RV} {A:Around} {H:Addr -> Prop} {s:Shared} {Q:Value -> Shared -> Prop} {Ex:Value -> Shared -> Prop} {i:Nat} {nm m:Str} {id:String} {np ap cp ip:Pos} {j:Int} {jk:Nat} {x:Str} {st hd:Nat} {gr:List (Nat × Nat)}
  (hg:nameOk Γ env.scope i nm = true) (hl:(ap.endLine == cp.line) = true) (sl:Slot "re.Match" m id) (ty:typeOf (.builtin id) = pure (.type "method_descriptor"))
  (hr:Here C lam Γ env ρ A n H s.heap) (e:getRV ρ i = .mt x st hd gr) (k:∀ a tk t,MtO H s.heap a x st hd gr -> wpAny (model C.prog C.w) A (call (.builtin id) [.ref a,.int j t]) Q Ex { s with toks:=tk }) :
  wpAny (model C.prog C.w) A (eval (.Call (.Attribute (.Name nm np) m ap) [.Constant (.int j) jk ip] [] cp) env) Q Ex s:=by
 refine meth_call rfl (fun y hy => by
   have:y = (false,eval (.Constant (.int j) jk ip) env):=List.mem_singleton.mp hy
   rw [this]) (show 1 < 29 by decide) hl pa_mat sl ty (load_var hg hr (by rw [e]; exact fun h => by cases h) fun v r => ?_)
 rw [e] at r
 refine xEA (r) fun a r1 mt => ?_
 obtain rfl:=r1
 refine ⟨mt.isMatch.type,fun a' ea => ?_,?_⟩
 ·cases ea
  refine xEEEEEEA (mt.isMatch) fun t p pos lim li tp e1 e2 => ?_
  exact ⟨_,e1,rfl⟩
 ·refine PySem.Calls.spliced_cons (x:=eval (.Constant (.int j) jk ip) env) (rest:=[]) ?_
  refine wpAny_Constant_int ?_
  exact PySem.Calls.spliced_nil (k a _ _ mt)
theorem s_grp {i:Nat}:Snd C F n (.grp i):=Snd.ofV rfl rfl (fun _ _ _ x h => ⟨h,vCallPI_elim (motive:=fun x => plainX x = true) h fun _ _ _ _ _ _ _ _ _ => rfl⟩) (by
 intro lam Γ env ρ x d A H s Q Ex hx hev hr k
 apply vCallPI_elim (x:=x) hx; intro z1 z2 z3 z4 z5 z6 z7 z8 hx
 ·replace hev:grpRV (getRV ρ i) = some d:=hev
  refine ba4 hx fun h1 e1 h2 e3 => ?_
  obtain rfl:=eq_of_beq e1
  obtain rfl:=eq_of_beq e3
  refine xEEEEA (mR_inv hev) fun x0 st hd gr e hev => ?_
  refine xEA (oneL_inv hev) fun q r0 hev => ?_
  obtain rfl:=r0
  ·cases hev
   exact mat_call h1 h2 slot_group type_group hr e fun a tk t mt => op_grp (s:={ s with toks:=tk }) mt hr.gg (k.after (EX.refl _)))
theorem s_span {i:Nat}:Snd C F n (.span i):=Snd.ofV rfl rfl (fun _ _ _ x h => ⟨h,vCallPI_elim (motive:=fun x => plainX x = true) h fun _ _ _ _ _ _ _ _ _ => rfl⟩) (by
 intro lam Γ env ρ x d A H s Q Ex hx hev hr k
 apply vCallPI_elim (x:=x) hx; intro z1 z2 z3 z4 z5 z6 z7 z8 hx
 ·replace hev:spanRV (getRV ρ i) = some d:=hev
  refine ba4 hx fun h1 e1 h2 e3 => ?_
  obtain rfl:=eq_of_beq e1
  obtain rfl:=eq_of_beq e3
  refine xEEEEA (mR_inv hev) fun x0 st hd gr e hev => ?_
  ·cases hev
   exact mat_call h1 h2 slot_span type_span hr e fun a tk t mt => op_span (s:={ s with toks:=tk }) mt hr.gg (k.after (EX.refl _)))
theorem s_mstr {i:Nat}:Snd C F n (.mstr i):=Snd.ofV rfl rfl (fun _ _ _ x h => ⟨h,vAttN_elim (motive:=fun x => plainX x = true) h fun _ _ _ _ _ => rfl⟩) (by
 intro lam Γ env ρ x d A H s Q Ex hx hev hr k
 apply vAttN_elim (x:=x) hx; intro z1 z2 z3 z4 hx
 ·replace hev:mstrRV (getRV ρ i) = some d:=hev
  refine ba2 hx fun h1 e1 => ?_
  obtain rfl:=eq_of_beq e1
  refine xEEEEA (mR_inv hev) fun x0 st hd gr e hev => ?_
  ·cases hev
   rw [arm_eval_Attribute]
   refine wpAny_bind ?_
   show wpAny _ _ (eval (.Name _ _) env) _ _ _
   refine load_var h1 hr (by rw [e]; exact fun h => by cases h) fun v r => ?_
   rw [e] at r
   refine xEA (r) fun a r1 mt => ?_
   obtain rfl:=r1
   refine wpAny_bind (wpAny_standAt (wpAny_bind (wpAny_holding (op_mstr mt hr.gg fun v h' tk ke g r => ?_))))
   exact wpAny_bind (wpAny_letTemporaryGo (wpAny_pure (k v h' tk ke g r))))
theorem s_hasm {i:Nat}:Snd C F n (.hasm i):=Snd.of rfl rfl (by
 intro lam Γ env ρ x d A H s Q Ex hx hev hr k
 exact (Bool.false_ne_true hx).elim) (by
 intro lam Γ env ρ x d A H s Q Ex hx hev hr k
 apply vNm_elim (x:=x) hx; intro z1 z2 hx
 ·replace hev:hasmRV (getRV ρ i) = some d:=hev
  refine isTrue_plain ?_
  cases e:getRV ρ i with
  | mt x0 st hd gr =>
   rw [e] at hev
   cases hev
   refine load_var hx hr (by rw [e]; exact fun h => by cases h) fun v r => ?_
   rw [e] at r
   refine xEA (r) fun a r1 mt => ?_
   obtain rfl:=r1
   exact truthy_match mt.isMatch (k _ s.toks (EX.refl _) hr.gg)
  | d y =>
   rw [e] at hev
   obtain ⟨hn,rfl⟩:=ite_some hev
   refine load_var hx hr (by rw [e]; exact fun h => by cases h) fun v r => ?_
   rw [e,isNoneD_inv hn] at r
   exact op_truthy r fun tk => k _ tk (EX.refl _) hr.gg
  | un => rw [e] at hev; cases hev)
theorem s_full (K:CxOk C) {p:Pat} {a:E} (ia:Snd C F n a):Snd C F n (.full p a):=Snd.of rfl rfl (by
 intro lam Γ env ρ x d A H s Q Ex hx hev hr k
 exact (Bool.false_ne_true hx).elim) (by
 intro lam Γ env ρ x d A H s Q Ex hx hev hr k
 apply vCallP1_elim (x:=x) hx; intro z1 z2 z3 z4 z5 z6 hx
 ·refine obind hev fun y ea hev => ?_
  refine ba5 hx fun h1 h2 h3 h4 h5 => ?_
  rw [beq_iff_eq] at h1 h3
  subst h3
  refine isTrue_plain (pat_call K h1 h2 h4 (fun z hz => ?_) (show 1 < 29 by decide) slot_fullmatch type_fullmatch hr fun pa hp => ?_)
  ·rw [notStar h5] at hz
   rw [List.mem_singleton.mp hz]
  ·rw [notStar h5]
   refine PySem.Calls.spliced_cons (ia.v h5 ea hr fun va h' tk ke g ra => PySem.Calls.spliced_nil ?_)
   refine op_full (s:={ s with heap:=h',toks:=tk }) hev (hp _ ke g) ra g fun v h'' tk' x q => ?_
   rcases q with ⟨rfl,q⟩ | ⟨q,b,X,st,hd,gr,rfl,m⟩
   ·refine op_truthy (H:=H) .none fun tk2 => ?_
    have:=k h'' tk2 (ke.trans (Ext.ex x)) (g.same x)
    rw [q] at this; exact this
   ·refine truthy_match m ?_
    have:=k h'' tk' (ke.trans (Ext.ex x)) (g.same x)
    rw [q] at this; exact this)
theorem s_subS (K:CxOk C) {p:Pat} {r a:E} (ir:Snd C F n r) (ia:Snd C F n a):Snd C F n (.subS p r a):=Snd.ofV rfl rfl (fun _ _ _ x h => ⟨h,vCallP2_elim (motive:=fun x => plainX x = true) h fun _ _ _ _ _ _ _ _ => rfl⟩) (by
 intro lam Γ env ρ x d A H s Q Ex hx hev hr k
 apply vCallP2_elim (x:=x) hx; intro z1 z2 z3 z4 z5 z6 z7 hx
 ·refine obind hev fun y er hev => ?_
  refine obind hev fun z ea hev => ?_
  refine ba6 hx fun h1 h2 h3 h4 h5 h6 => ?_
  rw [beq_iff_eq] at h1 h3
  subst h3
  refine pat_call K h1 h2 h4 (fun z hz => ?_) (show 2 < 29 by decide) slot_sub type_sub hr fun pa hp => ?_
  ·rw [notStar h5,notStar h6] at hz
   rcases List.mem_cons.mp hz with rfl | hz
   ·rfl
   ·rw [List.mem_singleton.mp hz]
  ·rw [notStar h5,notStar h6]
   refine PySem.Calls.spliced_cons (ir.v h5 er hr fun vr h' tk ke g rr => PySem.Calls.spliced_cons (ia.v h6 ea (hr.ex ke g) fun va h'' tk' ke' g' ra => PySem.Calls.spliced_nil ?_))
   exact op_subS (s:={ s with heap:=h'',toks:=tk' }) hev (hp _ (ke.trans ke') g') (rr.ex ke' g.hid) ra g' (k.after (ke.trans ke')))
theorem s_subn (K:CxOk C) {p:Pat} {a:E} (ia:Snd C F n a):Snd C F n (.subn p a):=Snd.ofV rfl rfl (fun _ _ _ x h => ⟨h,vCallPS_elim (motive:=fun x => plainX x = true) h fun _ _ _ _ _ _ _ _ _ _ => rfl⟩) (by
 intro lam Γ env ρ x d A H s Q Ex hx hev hr k
 apply vCallPS_elim (x:=x) hx; intro z1 z2 z3 z4 z5 z6 z7 z8 z9 hx
 ·refine obind hev fun z ea hev => ?_
  refine ba6 hx fun h1 h2 h3 h4 h5 h6 => ?_
  rw [beq_iff_eq] at h1 h3 h5
  subst h3 h5
  refine pat_call K h1 h2 h4 (fun z hz => ?_) (show 2 < 29 by decide) slot_subn type_subn hr fun pa hp => ?_
  ·rcases List.mem_cons.mp hz with rfl | hz
   ·rfl
   ·rw [notStar h6] at hz
    rw [List.mem_singleton.mp hz]
  ·show wpAny _ _ (spliced ((false,eval _ env) :: starEach [_] env)) _ _ _
   rw [notStar h6]
   refine PySem.Calls.spliced_cons (PySem.Calls.Constant_str (PySem.Calls.spliced_cons (ia.v h6 ea hr fun va h'' tk' ke' g' ra => PySem.Calls.spliced_nil ?_)))
   exact op_subn (s:={ s with heap:=h'',toks:=tk' }) hev (hp _ ke' g') ra g' (k.after ke'))
theorem s_subL (K:CxOk C) {p:Pat} {a:E} (ia:Snd C F n a):Snd C F n (.subL p a):=Snd.ofV rfl rfl (fun _ _ _ x h => ⟨h,vCallPL_elim (motive:=fun x => plainX x = true) h fun _ _ _ _ _ _ _ _ _ _ _ => rfl⟩) (by
 intro lam Γ env ρ x d A H s Q Ex hx hev hr k
 apply vCallPL_elim (x:=x) hx; intro z1 z2 z3 z4 z5 z6 z7 z8 z9 z10 hx
 ·refine obind hev fun z ea hev => ?_
  refine ba6 hx fun h1 h2 h3 h4 h5 h6 => ?_
  rw [beq_iff_eq] at h1 h3
  subst h3
  obtain ⟨hlam,_⟩:=lam_parts h5
  refine xEAAA (hr.lm _ hlam) fun l hl hc hp hq => ?_
  refine pat_call K h1 h2 h4 (fun z hz => ?_) (show 2 < 29 by decide) slot_sub type_sub hr fun pa hpa => ?_
  ·rcases List.mem_cons.mp hz with rfl | hz
   ·rfl
   ·rw [notStar h6] at hz
    rw [List.mem_singleton.mp hz]
  ·show wpAny _ _ (spliced ((false,eval _ env) :: starEach [_] env)) _ _ _
   rw [notStar h6]
   refine PySem.Calls.spliced_cons (op_lambda K hl hc hp hq hr.fr.glob h5 hr.gg fun f h' tk pm c' ctv ke g ho hcr => ?_)
   have tab:∀ b,b ∈ C.T -> ∃ ps:Array Value,h'.get? b = some (tabObj ps) /\ ∀ q t,ps[1]? ≠ some (.str q t):=fun b m => by
    refine xEA (List.mem_map.mp m) fun l' hl' r2 => ?_
    obtain rfl:=r2
    rcases (g.lam l' hl').2 with q | ⟨c2,q,_⟩
    ·exact ⟨_,q,fun _ _ e => by simp at e⟩
    ·exact ⟨_,q,fun _ _ e => by simp [rawInt] at e⟩
   have hf:f ∉ C.T:=fun m => by
    refine xEA (tab f m) fun ps e _ => ?_
    rw [ho] at e; cases e
   have hc':c' ∉ C.T:=fun m => by
    refine xEA (tab c' m) fun ps e ne => ?_
    refine xEEEEAAA (hcr) fun c2 o vs t e2 e3 e4 e5 => ?_
    cases e2
    rw [e3] at e; cases e; cases e4; exact ne _ _ e5
   refine PySem.Calls.spliced_cons (ia.v h6 ea (hr.ex ke g) fun va h'' tk' ke' g' ra => PySem.Calls.spliced_nil ?_)
   exact op_subL (s:={ s with heap:=h'',toks:=tk' }) hev h5 (hpa _ (ke.trans ke') g') (ke' _ _ hf ho) (CodeRec.ex hcr ke' hc') hr.ao (g'.nol K) ra g' (k.after (ke.trans ke')))
theorem s_nil:Snd C F n .nil:=⟨(by intro _ _ _ _ _ _ _ _ _ _ _ h; cases h),(by intro _ _ _ _ _ _ _ _ _ _ _ h; cases h),(by intro _ _ _ _ _ _ _ _ _ _ _ _ h; cases h),by
  intro lam Γ env ρ xs ds A H s Q Ex hx hev hr k
  replace hx:=List.isEmpty_iff.mp hx; subst hx
  cases hev
  exact PySem.Calls.spliced_nil (k _ _ s.toks (EX.refl _) hr.gg .nil),by
  intro lam Γ env ρ xs x0 d A H s Q Ex pos isAnd hx hne
  exact (hne (List.isEmpty_iff.mp hx)).elim,by
  intro lam Γ env ρ xs x0 d A H s Q Ex isAnd hx h0 hev hr k
  replace hx:=List.isEmpty_iff.mp hx; subst hx
  cases hev
  rw [arm_allTrue_nil]
  have:=k _ s.toks (EX.refl _) hr.gg
  rw [h0 rfl] at this
  cases isAnd <;> exact wpAny_pure this⟩
theorem s_cons {a b:E} (ia:Snd C F n a) (ib:Snd C F n b):Snd C F n (.cons a b):=⟨(by intro _ _ _ _ _ _ _ _ _ _ _ h; cases h),(by intro _ _ _ _ _ _ _ _ _ _ _ h; cases h),(by intro _ _ _ _ _ _ _ _ _ _ _ _ h; cases h),by
  intro lam Γ env ρ xs ds A H s Q Ex hx hev hr k
  cases xs with
  | nil => cases hx
  | cons x xs =>
   replace hx:=Bool.and_eq_true_iff.mp hx
   refine obind hev fun y ea hev => ?_
   refine xEA (Option.map_eq_some_iff.mp hev) fun ys eb r2 => ?_
   obtain rfl:=r2
   rw [notStar hx.1]
   refine PySem.Calls.spliced_cons (ia.v hx.1 ea hr fun va h' tk ke g ra => ib.l hx.2 eb (hr.ex ke g) fun vs h'' tk' ke' g' rs => k _ _ _ (ke.trans ke') g' (.cons (ra.ex ke' g.hid) rs)),by
  intro lam Γ env ρ xs x0 d A H s Q Ex pos isAnd hx hne hev hr k
  cases xs with
  | nil => cases hx
  | cons x xs =>
   replace hx:=Bool.and_eq_true_iff.mp hx
   refine obind hev fun y ea hev => ?_
   cases xs with
   | nil =>
    show wpAny _ _ (boolOp pos _ [eval x env]) _ _ _
    delta boolOp
    refine ia.v hx.1 ea hr fun va h' tk ke g ra => ?_
    have:d = y:=by
     split at hev
     ·obtain rfl:=isXs_nil hx.2; cases hev; rfl
     ·cases hev; rfl
    subst this
    exact k va h' tk ke g ra
   | cons x' xs =>
    show wpAny _ _ (boolOp pos _ (eval x env :: eval x' env :: evalEach xs env)) _ _ _
    unfold boolOp
    refine wpAny_bind (ia.v hx.1 ea hr fun va h' tk ke g ra => wpAny_bind (wpAny_standAt (wpAny_bind (wpAny_holding (op_truthy ra fun tk' => ?_)))))
    have hg:=ib.bv (pos:=pos) (H:=H) (A:=A) (ρ:=ρ) (s:={ s with heap:=h',toks:=tk' }) (Q:=Q) (Ex:=Ex) (x0:=y) (d:=d) isAnd hx.2 (by simp)
    cases isAnd <;> cases ht:truth y <;> rw [ht] at hev
    ·exact hg hev (hr.ex ke g) (k.after ke)
    ·cases hev; exact wpAny_pure (k va h' tk' ke g ra)
    ·cases hev; exact wpAny_pure (k va h' tk' ke g ra)
    ·exact hg hev (hr.ex ke g) (k.after ke),by
  intro lam Γ env ρ xs x0 d A H s Q Ex isAnd hx h0 hev hr k
  cases xs with
  | nil => cases hx
  | cons x xs =>
   replace hx:=Bool.and_eq_true_iff.mp hx
   refine obind hev fun y ea hev => ?_
   rw [arm_allTrue_cons]
   refine wpAny_bind (ia.c hx.1 ea hr fun h' tk ke g => ?_)
   have hg:=fun q => ib.bc (H:=H) (A:=A) (ρ:=ρ) (s:={ s with heap:=h',toks:=tk }) (Q:=Q) (Ex:=Ex) (x0:=y) (d:=d) isAnd hx.2 q
   have hk:∀ h'' tk',EX C.T h' h'' -> GG C H h'' -> Q (truth d) { s with heap:=h'',toks:=tk' }:=fun h'' tk' ke' g' => k h'' tk' (ke.trans ke') g'
   cases isAnd <;> cases ht:truth y <;> rw [ht] at hev
   ·exact hg (fun _ => ht) hev (hr.ex ke g) hk
   ·cases hev; have:=hk h' tk (EX.refl _) g; rw [ht] at this; exact wpAny_pure this
   ·cases hev; have:=hk h' tk (EX.refl _) g; rw [ht] at this; exact wpAny_pure this
   ·exact hg (fun _ => ht) hev (hr.ex ke g) hk⟩
theorem s_band {es:E} (ie:Snd C F n es):Snd C F n (.band es):=Snd.of rfl rfl (by
 intro lam Γ env ρ x d A H s Q Ex hx hev hr k
 apply vAnd_elim (x:=x) hx; intro z1 z2 hx
 ·rw [Bool.and_eq_true] at hx
  rw [arm_eval_BoolOp]
  exact ie.bv true hx.1 (fun e => by rw [e] at hx; cases hx.2) hev hr k) (by
 intro lam Γ env ρ x d A H s Q Ex hx hev hr k
 apply vAnd_elim (x:=x) hx; intro z1 z2 hx
 ·rw [Bool.and_eq_true] at hx
  rw [arm_isTrue_BoolOp]
  exact ie.bc true hx.1 (fun e => by rw [e] at hx; cases hx.2) hev hr k)
theorem s_bor {es:E} (ie:Snd C F n es):Snd C F n (.bor es):=Snd.of rfl rfl (by
 intro lam Γ env ρ x d A H s Q Ex hx hev hr k
 apply vOr_elim (x:=x) hx; intro z1 z2 hx
 ·rw [Bool.and_eq_true] at hx
  rw [arm_eval_BoolOp]
  exact ie.bv false hx.1 (fun e => by rw [e] at hx; cases hx.2) hev hr k) (by
 intro lam Γ env ρ x d A H s Q Ex hx hev hr k
 apply vOr_elim (x:=x) hx; intro z1 z2 hx
 ·rw [Bool.and_eq_true] at hx
  rw [arm_isTrue_BoolOp]
  exact ie.bc false hx.1 (fun e => by rw [e] at hx; cases hx.2) hev hr k)
end
noncomputable def Own (C:Cx) (H:Addr -> Prop) (a:Addr):Prop:=H a /\ a ∉ C.T /\ C.hb.get? a = none
section
variable {C:Cx} {H H':Addr -> Prop} {h h' h0:Heap} {a:Addr}
theorem Own.more (o:Own C H a) (k:∀ b,H b -> H' b):Own C H' a:=⟨k _ o.1,o.2⟩
theorem Own.one (o:Own C H a):∀ b ∈ [a],H b:=fun b m => by rw [List.mem_singleton.mp m]; exact o.1
theorem GG.step1 (g:GG C H h) (o:Own C H a) (k:EX [a] h h') (l:∃ ob,h'.get? a = some ob):GG C H h':=
 g.step k o.one (fun b m => by rw [List.mem_singleton.mp m]; exact o.2.1) (fun b m => by rw [List.mem_singleton.mp m]; exact o.2.2) fun b m => by rw [List.mem_singleton.mp m]; exact l
theorem own_new (g:GG C H h):Own C (Hide H h.objs.size) h.objs.size:=by
 refine ⟨.inr rfl,fun m => g.new (g.hid _ m),?_⟩
 cases e:C.hb.get? h.objs.size with
 | none => rfl
 | some o =>
  have:=g.base _ _ (fun m => g.new (g.hid _ m)) e
  rw [Heap.get?_none_of_le (Nat.le_refl _)] at this; cases this
theorem EX.fresh {X:List Addr} (k:EX X h0 h) (n:h0.get? a = none) (q:EX [a] h h'):EX X h0 h':=fun b o hb e => q b o (fun m => by rw [List.mem_singleton.mp m,n] at e; cases e) (k b o hb e)
theorem EX.none_of {X:List Addr} (k:EX X h0 h) (ha:a ∉ X) (n:h.get? a = none):h0.get? a = none:=by
 cases e:h0.get? a with
 | none => rfl
 | some o => rw [k a o ha e] at n; cases n
theorem GG.drop1 (g:GG C H h) (o:Own C H a) (k:EX [a] h h') (hs:∀ b,H' b -> H b /\ b ≠ a) (hT:∀ b ∈ C.T,H' b):GG C H' h':=
 g.drop k o.one (fun b m => by rw [List.mem_singleton.mp m]; exact o.2.2) (fun b m => by rw [List.mem_singleton.mp m]; exact o.2.1) (fun b m => ⟨(hs b m).1,by simpa using (hs b m).2⟩) hT
theorem same_ex (k:Heap.SameBut a h h'):EX [a] h h':=fun b o hb e => (k.2 b (by simpa using hb)).trans e
end
section
variable {C:Cx} {F:Str -> List RV -> Option PyData} {n:Nat}
theorem Snd.ofI {e:E} (hv:∀ G lam t Γ sc x,isX G lam e t Γ sc x = false) (hn:notList e = true) (i:SndI C F n e):Snd C F n e:=
 ⟨(by intro _ _ _ _ _ _ _ _ _ _ _ h; rw [hv] at h; cases h),(by intro _ _ _ _ _ _ _ _ _ _ _ h; rw [hv] at h; cases h),i,(by intro _ _ _ _ _ _ _ _ _ _ _ h; rw [isXs_nl hn] at h; cases h),
  (by intro _ _ _ _ _ _ _ _ _ _ _ _ _ _ h; rw [isXs_nl hn] at h; cases h),by intro _ _ _ _ _ _ _ _ _ _ _ _ _ h; rw [isXs_nl hn] at h; cases h⟩
theorem s_rng (K:CxOk C) {a:E} (ia:Snd C F n a):Snd C F n (.rng a):=Snd.ofI (fun _ _ _ _ _ _ => rfl) rfl (by
  intro lam Γ env ρ x d items A H s Q Ex hx hev hi hr k
  replace hx:isR1 env.scope x (isX C.G lam a false Γ env.scope) = true:=hx
  apply vCallN1_elim (x:=x) hx; intro z1 z2 z3 z4 hx
  ·refine obind hev fun y ea hev => ?_
   rw [Bool.and_eq_true,Bool.and_eq_true,beq_iff_eq] at hx
   obtain ⟨⟨rfl,h1⟩,h2⟩:=hx
   refine xEA (iP_inv (show iP (fun n => (rngD 0 n).map .list) y = some d from hev)) fun z r0 hq1 => ?_
   obtain rfl:=r0
   replace hev:=hq1
   ·refine xEA (Option.map_eq_some_iff.mp hev) fun l er r2 => ?_
    obtain rfl:=r2
    cases hi
    refine Call_name1 (by rw [notStar h2]; rfl) (load_bui K h1 hr (by decide) (by decide) (v:=.type "range") rfl ?_)
    refine PySem.callWith_type1 (ia.v h2 ea hr fun va h' tk ke g ra => ?_)
    obtain ⟨t,rfl⟩:=ra.int_inv
    refine call_range_1 ?_
    have x:Ext h' (h'.push { cls:=.type "range",data:=.fields #[.int 0 tk,.int z t,.int 1 (tk + 1)] }):=Ext.push _
    refine op_range_iter (s:={ s with heap:=h'.push { cls:=.type "range",data:=.fields #[.int 0 tk,.int z t,.int 1 (tk + 1)] },toks:=tk + 1 + 1 }) er (IsRange.new h' 0 z 1 _ _ _) (g.same x) fun o ho it => ?_
    refine k ?_ _ _ o (ke.trans (Ext.ex x)) (g.same x) ho it
    unfold rngD at er
    obtain ⟨hc,rfl⟩:=ite_some er
    rw [List.length_map,List.length_range]
    have:big = 1000000:=rfl
    lia)
theorem isI_set {G:GC} {lam:Option Pos} {Γ:List (Str × NameKind)} {sc:Scope} {a:List PySem.Expr} {b:Nat} {c:Pos} (e:E):isI G lam e Γ sc (.Set a b c) = false:=by
 cases e <;> first | rfl | kernel_rfl
theorem folded_pure {G:GC} {lam:Option Pos} {e:E} {Γ:List (Str × NameKind)} {sc:Scope} {iter:PySem.Expr} {env:Env} (h:isI G lam e Γ sc iter = true) (x:Value):foldedSetIterable iter env x = pure x:=by
 by_cases k:iter.ctorIdx = 7
 ·revert h; exact Expr.Set.elim (motive_1:=fun iter => isI G lam e Γ sc iter = true -> foldedSetIterable iter env x = pure x) iter k (fun a b c h => absurd ((isI_set e).symm.trans h) Bool.false_ne_true)
 ·cases iter <;> first | rfl | exact (k rfl).elim
end
theorem closureFor_cells {scope:Scope} {env:Env} (h:∀ x ∈ scope.names,x.2 = .free -> (env.cells.lookup x.1).isSome = true) :
  ∃ cl,closureFor scope env = pure cl /\ (∀ x,(x,NameKind.free) ∈ scope.names -> cl.lookup x = env.cells.lookup x):=by
 have key:∀ (names:List (Str × NameKind)) (cs:List (Str × Addr)),(∀ x ∈ names,x.2 = .free -> (env.cells.lookup x.1).isSome = true) ->
   ∃ cl,(forIn names cs fun (x:Str × NameKind) (r:List (Str × Addr)) => (do
    let cs:=r
    if (x.2 == .free) = true then do
     let y <- cellOf env x.1
     pure (ForInStep.yield ((x.1,y) :: cs))
    else pure (ForInStep.yield cs):Sem (ForInStep (List (Str × Addr))))) = pure cl /\
   (∀ x,cs.lookup x = env.cells.lookup x -> cl.lookup x = env.cells.lookup x) /\ (∀ x,(x,NameKind.free) ∈ names -> cl.lookup x = env.cells.lookup x):=by
  intro names
  induction names with
  | nil => intro cs _; exact ⟨cs,rfl,fun _ h => h,fun _ h => by cases h⟩
  | cons nk r ih =>
   intro cs hn
   obtain ⟨nm,kd⟩:=nk
   rw [List.forIn_cons]
   by_cases hk:kd = .free
   ·subst hk
    have hs:=hn (nm,.free) List.mem_cons_self rfl
    obtain ⟨c,hc⟩:=Option.isSome_iff_exists.mp hs
    have e1:cellOf env nm = pure c:=by
     show (match env.cells.lookup nm with | some c => pure c | none => _) = _
     rw [hc]
    refine xEAA (ih ((nm,c) :: cs) fun x hx => hn x (List.mem_cons_of_mem _ hx)) fun cl e k1 k2 => ?_
    have hnew:∀ x,cs.lookup x = env.cells.lookup x -> ((nm,c) :: cs).lookup x = env.cells.lookup x:=fun x hx => by
     rw [List.lookup_cons]
     cases hb:x == nm with
     | true => rw [beq_iff_eq] at hb; subst hb; exact hc.symm
     | false => exact hx
    refine ⟨cl,?_,fun x hx => k1 x (hnew x hx),fun x hx => ?_⟩
    ·rw [e1]
     exact e
    ·rcases List.mem_cons.mp hx with h | h
     ·cases h
      refine k1 _ ?_
      rw [List.lookup_cons,beq_self_eq_true]; exact hc.symm
     ·exact k2 x h
   ·refine xEAA (ih cs fun x hx => hn x (List.mem_cons_of_mem _ hx)) fun cl e k1 k2 => ?_
    refine ⟨cl,?_,k1,fun x hx => ?_⟩
    ·have:(kd == NameKind.free) = false:=by simpa using hk
     simp only [this]
     exact e
    ·rcases List.mem_cons.mp hx with h | h
     ·cases h; exact (hk rfl).elim
     ·exact k2 x h
 refine xEAA (key scope.names [] h) fun cl e _ k => ?_
 exact ⟨cl,by
  unfold closureFor
  exact (congrArg (fun (m:Sem (List (Str × Addr))) => m >>= fun r => pure r) e).trans rfl,k⟩
theorem lookup_relabel {env:Env} (hk:env.scope.kind = .function):∀ {names:List (Str × NameKind)} {x:Str} {k:NameKind},
  (names.map fun (n,k) => if (k == NameKind.free && env.scope.kind == .function && env.kindOf n == some .cell) then (n,NameKind.cell) else (n,k)).lookup x = some k ->
  (names.lookup x = some k /\ ¬ (k = .free /\ env.kindOf x = some .cell)) \/ (k = .cell /\ names.lookup x = some .free /\ env.kindOf x = some .cell)
 | [],_,_,h => by simp at h
 | (n,k0) :: r,x,k,h => by
  have ih:=@lookup_relabel env hk r x k
  rw [List.map_cons,List.lookup_cons] at h
  dsimp only at h
  by_cases hc:(k0 == NameKind.free && env.scope.kind == .function && env.kindOf n == some .cell) = true
  ·rw [if_pos hc] at h
   simp only [Bool.and_eq_true,beq_iff_eq] at hc
   cases hx:x == n with
   | true =>
    rw [hx] at h; cases h
    rw [beq_iff_eq] at hx; subst hx
    refine .inr ⟨rfl,?_,hc.2⟩
    rw [List.lookup_cons,beq_self_eq_true,hc.1.1]
   | false =>
    rw [hx] at h
    rw [List.lookup_cons,hx]; exact ih h
  ·rw [if_neg hc] at h
   cases hx:x == n with
   | true =>
    rw [hx] at h; cases h
    rw [beq_iff_eq] at hx; subst hx
    refine .inl ⟨by rw [List.lookup_cons,beq_self_eq_true],fun q => hc ?_⟩
    have q1:k0 = .free:=q.1
    rw [q1,q.2,hk]; rfl
   | false =>
    rw [hx] at h
    rw [List.lookup_cons,hx]; exact ih h
theorem lookup_mem {α β:Type} [BEq α] [LawfulBEq α] {x:α} {y:β}:∀ {l:List (α × β)},l.lookup x = some y -> (x,y) ∈ l
 | [],h => by simp at h
 | (a,b) :: r,h => by
  rw [List.lookup_cons] at h
  cases hx:x == a with
  | true => rw [hx] at h; cases h; rw [beq_iff_eq] at hx; subst hx; exact List.mem_cons_self
  | false => rw [hx] at h; exact List.mem_cons_of_mem _ (lookup_mem h)
section
variable {prog:Program} {w:World} {A:Around} {E:Value -> Shared -> Prop} {R:Result -> Shared -> Prop} {s:Shared}
theorem compLoop_go {elt target iter:PySem.Expr} {ifs:List PySem.Expr} {scope:Scope} {pos:Pos} {it acc:Value} {env:Env} (I:Nat -> Shared -> Prop)
  (turn:∀ n s Ex,I n s -> wpAny (model prog w) A (pyNext it) (fun r s₁ => match r with
   | none => R (.ok .next) s₁
   | some v => wpAny (model prog w) A (letOwnedTupleGo target it v) (fun _ s₁' => wpAny (model prog w) A (assign target env v) (fun _ s₂ =>
     wpAny (model prog w) A (forIn ifs true fun c r => if r = true then do let ok <- isTrue c env (eval c env); pure (ForInStep.yield ok) else pure (ForInStep.yield r)) (fun ok s₃ =>
      if ok = true then wpAny (model prog w) A (eval elt env) (fun x s₄ =>
       wpAny (model prog w) A (call (.builtin "list.append") [acc,x]) (fun _ s₅ => ∃ m,m < n /\ I m s₅) Ex s₄) Ex s₃
      else ∃ m,m < n /\ I m s₃) Ex s₂) Ex s₁') Ex s₁) Ex s)
  (n:Nat) (h:I n s) :
  codeAny (model prog w) A (.compLoop (.ListComp elt [⟨target,iter,ifs,0⟩] scope pos) 0 it acc env) R s:=by
 refine codeAny_loop rfl I (fun n s hI => ?_) n h
 show wpAny _ A ((compTurn (.ListComp elt [⟨target,iter,ifs,0⟩] scope pos) 0 it acc env).onRaise (fun x => do noteFrame x env; theTreesLotGoes x)) _ _ s
 refine wpAny_noted ?_
 rw [compTurn_list]
 refine wpAny_bind (wpAny_standAt (wpAny_bind (wpAny_mono (turn n s _ hI) (fun r s₁ h₁ => ?_) fun _ _ h' => h')))
 cases r with
 | none => exact wpAny_pure h₁
 | some v =>
  refine wpAny_bind (wpAny_mono h₁ (fun _ s₁' h₁' => ?_) fun _ _ h' => h')
  refine wpAny_bind (wpAny_mono h₁' (fun _ s₂ h₂ => wpAny_bind (wpAny_mono h₂ (fun ok s₃ h₃ => ?_) fun _ _ h' => h')) fun _ _ h' => h')
  cases ok with
  | false => exact wpAny_pure ⟨rfl,h₃⟩
  | true =>
   exact wpAny_bind (wpAny_bind (wpAny_mono h₃ (fun x s₄ h₄ => wpAny_bind (wpAny_mono h₄ (fun _ s₅ h₅ => wpAny_pure (wpAny_pure ⟨rfl,h₅⟩)) fun _ _ h' => h')) fun _ _ h' => h'))
end
theorem getRV_left {tg ρ:List RV} {i:Nat} (h:i < tg.length):getRV (tg ++ ρ) i = getRV tg i:=by
 unfold getRV; rw [List.getElem?_append_left h]
theorem getRV_right {tg ρ:List RV} {i:Nat} (h:tg.length <= i):getRV (tg ++ ρ) i = getRV ρ (i - tg.length):=by
 unfold getRV; rw [List.getElem?_append_right h]
theorem getRV_some {tg:List RV} {i:Nat} {rv:RV} (h:tg[i]? = some rv):getRV tg i = rv:=by unfold getRV; rw [h]; rfl
section
variable {C:Cx} {H H':Addr -> Prop} {h0 h2:Heap}
theorem scopeOk_inv {scope sc:Scope} (h:scopeOk scope sc = true):scope.kind = .function /\ (∀ x ∈ scope.names,x.2 ≠ .cell /\ (x.2 = .local -> scope.names.lookup x.1 = some .local) /\ (x.2 = .free -> sc.names.lookup x.1 = some .cell)):=by
 unfold scopeOk lk at h
 rw [Bool.and_eq_true,decide_eq_true_eq,List.all_eq_true] at h
 refine ⟨h.1,fun x hx => ?_⟩
 have:=h.2 x hx
 simp only [Bool.and_eq_true,Bool.or_eq_true,bne_iff_ne,ne_eq,beq_iff_eq] at this
 obtain ⟨⟨a,b⟩,c⟩:=this
 exact ⟨a,fun e => b.resolve_left fun n => n e,fun e => (c.resolve_left fun n => n e).1⟩
theorem lookups_inv {scope:Scope} {ns:List Str} {k:NameKind} (h:lookups scope ns k = true):∀ x ∈ ns,scope.names.lookup x = some k:=by
 unfold lookups lk at h
 rw [List.all_eq_true] at h
 intro x hx
 have:=h x hx
 simp only [Bool.and_eq_true,beq_iff_eq] at this
 exact this.1
theorem comp_fr {Γ:List (Str × NameKind)} {env:Env} {ρ tg:List RV} {scope:Scope} {cl:List (Str × Addr)} {L:Addr} {m:Str -> Option Value} {ns:List Str} {vs:List Value} (fr:FR C Γ env ρ H h0)
  (more:∀ a,H' a -> H a \/ h0.get? a = none) (hT:∀ a ∈ C.T,H' a) (ke:EX C.T h0 h2) (hL:L ∉ C.T) (hns:h2.Ns L (bindN m ns vs)) (hv:∀ (i:Nat) (rv:RV),tg[i]? = some rv -> ∃ w,vs[i]? = some w /\ RVok H' h2 w rv) (hlen:tg.length = ns.length) (hnd:ns.Nodup)
  (hs:scopeOk scope env.scope = true) (hl:lookups scope ns .local = true) (hcl:∀ x,(x,NameKind.free) ∈ scope.names -> cl.lookup x = env.cells.lookup x) :
  FR C (kinds .local ns ++ Γ.map fun x => (x.1,.cell)) (compEnvC scope cl L env) (tg ++ ρ) H' h2:=by
 obtain ⟨hk,hn⟩:=scopeOk_inv hs
 have hl':=lookups_inv hl
 have cellOf:∀ x,(compEnvC scope cl L env).kindOf x = some .cell -> scope.names.lookup x = some .free /\ env.kindOf x = some .cell:=fun x hx => by
  rcases lookup_relabel fr.kind hx with ⟨h,_⟩ | ⟨_,h1,h2⟩
  ·exact ((hn _ (lookup_mem h)).1 rfl).elim
  ·exact ⟨h1,h2⟩
 have locOf:∀ x ∈ ns,(compEnvC scope cl L env).kindOf x = some .local:=fun x hx => lookup_relabel_local (hl' x hx)
 have kl:(kinds .local ns).length = ns.length:=by unfold kinds; rw [List.length_map]
 refine ⟨hk,fr.glob,fr.bui,fun x hx => ?_,fun i x k hi => ?_,fun i x k hi hx => ?_⟩
 ·obtain ⟨h1,h2⟩:=cellOf x hx
  show (cl.lookup x).isSome = true
  rw [hcl x (lookup_mem h1)]
  exact fr.cell x h2
 ·by_cases hlt:i < ns.length
  ·rw [List.getElem?_append_left (by lia)] at hi
   unfold kinds at hi
   rw [List.getElem?_map] at hi
   refine xEA (Option.map_eq_some_iff.mp hi) fun y hy e => ?_
   cases e
   refine .inr ⟨rfl,?_⟩
   rw [locOf _ (List.mem_of_getElem? hy)]
   exact fun h => by cases h
  ·rw [List.getElem?_append_right (by lia),List.getElem?_map] at hi
   refine xEA (Option.map_eq_some_iff.mp hi) fun y hy e => ?_
   cases e
   exact .inl rfl
 ·by_cases hlt:i < ns.length
  ·rw [List.getElem?_append_left (by lia)] at hi
   unfold kinds at hi
   rw [List.getElem?_map] at hi
   refine xEA (Option.map_eq_some_iff.mp hi) fun y hy e => ?_
   cases e
   rw [getRV_left (by lia)]
   obtain ⟨rv,hrv⟩:∃ rv,tg[i]? = some rv:=⟨tg[i]'(by lia),List.getElem?_eq_getElem (by lia)⟩
   rw [getRV_some hrv]
   refine xEA (hv i rv hrv) fun w hw r => ?_
   exact .inr ⟨w,.inl ⟨rfl,hL,_,hns,bindN_at hnd hy hw⟩,r⟩
  ·rw [List.getElem?_append_right (by lia),List.getElem?_map,kl] at hi
   refine xEA (Option.map_eq_some_iff.mp hi) fun y hy e => ?_
   cases e
   obtain ⟨y,k0⟩:=y
   rw [getRV_right (by lia),hlen]
   obtain ⟨h1,h2'⟩:=cellOf _ hx
   rcases fr.kk _ _ _ hy with rfl | ⟨_,q⟩
   ·rcases fr.val _ _ _ hy h2' with q | ⟨v,l,r⟩
    ·exact .inl q
    ·rcases l with ⟨e,_⟩ | ⟨_,c,hc,hlk,o,eo,rr⟩
     ·cases e
     ·refine .inr ⟨v,.inr ⟨rfl,c,hc,?_,o,ke c o hc eo,rr⟩,(r.more more).ex ke hT⟩
      show cl.lookup y = some c
      rw [hcl y (lookup_mem h1)]; exact hlk
   ·exact (q h2').elim
structure CI (C:Cx) (H':Addr -> Prop) (I acc L:Addr) (items:List PyData) (f:PyData -> Option (Option PyData)) (tot:List PyData) (h0:Heap) (i:Nat) (h:Heap):Prop where
 ex:EX C.T h0 h
 gg:GG C H' h
 it:IterOk C H' I items i h
 le:i <= items.length
 ac:∃ vs ys rest,h.PlainList acc vs /\ Rds H' h vs.toList ys /\ compD f (items.drop i) = some rest /\ ys ++ rest = tot /\ ys.length <= i
 ns:∃ m,h.Ns L m
inductive CT (C:Cx) (H':Addr -> Prop) (I acc L:Addr) (items:List PyData) (f:PyData -> Option (Option PyData)) (tot:List PyData) (h0:Heap) (s0:Shared):Nat -> Shared -> Prop
 | mk (i:Nat) (h:Heap) (tk:Nat):CI C H' I acc L items f tot h0 i h -> CT C H' I acc L items f tot h0 s0 (items.length - i) { s0 with heap:=h,toks:=tk }
theorem Ns.ex {X:List Addr} {h h':Heap} {a:Addr} {m:Str -> Option Value} (l:h.Ns a m) (k:EX X h h') (n:a ∉ X):h'.Ns a m:=by obtain ⟨o,es,ep,e,r⟩:=l; exact ⟨o,es,ep,k a o n e,r⟩
theorem PList.ex {X:List Addr} {h h':Heap} {a:Addr} {vs:Array Value} (l:h.PlainList a vs) (k:EX X h h') (n:a ∉ X):h'.PlainList a vs:=by obtain ⟨o,e⟩:=l; exact ⟨o,k a _ n e⟩
theorem PList.live {h:Heap} {a:Addr} {vs:Array Value} (l:h.PlainList a vs):∃ o,h.get? a = some o:=by obtain ⟨o,e⟩:=l; exact ⟨_,e⟩
theorem IsList.live {h:Heap} {a:Addr} {vs:Array Value} (l:h.IsList a vs):∃ o,h.get? a = some o:=by obtain ⟨o,e,_⟩:=l; exact ⟨o,e⟩
theorem Ns.live {h:Heap} {a:Addr} {m:Str -> Option Value} (l:h.Ns a m):∃ o,h.get? a = some o:=by obtain ⟨o,_,_,e,_⟩:=l; exact ⟨o,e⟩
end
section
variable {C:Cx} {F:Str -> List RV -> Option PyData} {n:Nat}
theorem comp_turns {c e:E} (ic:Snd C F n c) (ie:Snd C F n e) {lam:Option Pos} {Γ:List (Str × NameKind)} {env:Env} {ρ:List RV} {A:Around} {H H':Addr -> Prop} {h0:Heap} {s0:Shared} {elt tgt iter:PySem.Expr} {ifs:List PySem.Expr} {scope:Scope} {pos:Pos} {ns:List Str} {cl:List (Str × Addr)}
  {I acc L:Addr} {items tot:List PyData} {R:Result -> Shared -> Prop}
  (hr0:Here C lam Γ env ρ A n H h0) (more:∀ a,H' a -> H a \/ h0.get? a = none) (sub:∀ a,H a -> H' a) (oI:Own C H' I) (oA:Own C H' acc) (oL:Own C H' L) (nI:h0.get? I = none) (nA:h0.get? acc = none) (nL:h0.get? L = none) (dIA:I ≠ acc) (dIL:I ≠ L) (dAL:acc ≠ L)
  (htg:tgtNames tgt = some ns) (hnd:ns.Nodup) (hsc:scopeOk scope env.scope = true) (hlk:lookups scope ns .local = true)
  (hifs:(ifs = [] /\ c = .bool true) \/ ∃ c',ifs = [c'] /\ isX C.G none c true (kinds .local ns ++ Γ.map fun x => (x.1,.cell)) (relabelS scope env.scope) c' = true)
  (helt:isX C.G none e false (kinds .local ns ++ Γ.map fun x => (x.1,.cell)) (relabelS scope env.scope) elt = true)
  (hcl':∀ x,(x,NameKind.free) ∈ scope.names -> cl.lookup x = env.cells.lookup x) (hbig:items.length <= big)
  (fin:∀ h tk vs,EX C.T h0 h -> GG C (fun b => H' b /\ b ≠ I) h -> h.PlainList acc vs -> Rds H' h vs.toList tot -> (∃ m,h.Ns L m) -> R (.ok .next) { s0 with heap:=h,toks:=tk })
  {h:Heap} {tk:Nat} (ci:CI C H' I acc L items (fun x => (bindT ns.length x).bind fun tg => (evE F c (tg ++ ρ)).bind fun t => if truth t then (evE F e (tg ++ ρ)).map some else some none) tot h0 0 h) :
  codeAny (model C.prog C.w) A (.compStart (.ListComp elt [⟨tgt,iter,ifs,0⟩] scope pos) 0 (.ref I) (.ref acc) (compEnvC scope cl L env)) R { s0 with heap:=h,toks:=tk }:=by
 obtain ⟨hkind,hnames⟩:=scopeOk_inv hsc
 have hl':=lookups_inv hlk
 generalize hf:(fun x => (bindT ns.length x).bind fun tg => (evE F c (tg ++ ρ)).bind fun t => if truth t then (evE F e (tg ++ ρ)).map some else some none) = f at ci
 have hh:A.handled = none:=hr0.ao.h
 have hb16:big <= sizeLine:=by decide
 have hTH:∀ a ∈ C.T,H' a:=fun a m => sub a (hr0.gg.hid a m)
 have hloop:codeAny (model C.prog C.w) A (.compLoop (.ListComp elt [⟨tgt,iter,ifs,0⟩] scope pos) 0 (.ref I) (.ref acc) (compEnvC scope cl L env)) R { s0 with heap:=h,toks:=tk }:=by
  refine compLoop_go (CT C H' I acc L items f tot h0 s0) ?_ items.length (.mk 0 h tk ci)
  intro kk s' Ex ct
  cases ct with
  | mk i h tk ci =>
   by_cases hlt:i < items.length
   ·refine iter_next hh ci.it hlt fun v h1 tk1 d hd rd it1 ex1 => ?_
    dsimp only
    have gg1:=ci.gg.step1 oI ex1 it1.live
    have e1:=ci.ex.fresh nI ex1
    refine iter_go it1 ?_
    refine xEEEAAAA (ci.ac) fun vs ys rest la ra hcomp htot hle => ?_
    rw [List.drop_eq_getElem_cons hlt] at hcomp
    have hdi:items[i] = d:=by rw [List.getElem?_eq_getElem hlt] at hd; exact Option.some.inj hd
    rw [hdi] at hcomp
    refine xEA (Option.bind_eq_some_iff.mp hcomp) fun q hq hcomp => ?_
    refine xEA (Option.map_eq_some_iff.mp hcomp) fun z hz r0 => ?_
    obtain rfl:=r0
    have hfd':=hq
    rw [<- hf] at hfd'
    refine xEA (Option.bind_eq_some_iff.mp hfd') fun tg htgd hfd' => ?_
    refine xEA (Option.bind_eq_some_iff.mp hfd') fun t hc hfd' => ?_
    obtain ⟨mL,nsL⟩:=ci.ns
    have nsL1:=Ns.ex nsL ex1 (by simpa using dIL.symm)
    have locOf:∀ x ∈ ns,(compEnvC scope cl L env).kindOf x = some .local:=fun x hx => lookup_relabel_local (hl' x hx)
    refine op_assign (H:=H') (s:={ s0 with heap:=h1,toks:=tk1 }) hh htg htgd rd hkind locOf nsL1 fun ws h2 tk2 hwl hw htl ns2 ex2 => ?_
    dsimp only at ns2 ex2
    have ex2':EX [L] h1 h2:=ex2
    have ns2':h2.Ns L (bindN mL ns ws):=ns2
    have gg2:=gg1.step1 oL ex2' (Ns.live ns2')
    have e2:=e1.fresh nL ex2'
    have it2:=it1.step ex2' oL.one (by simpa using dIL)
    have la2:=PList.ex (PList.ex la ex1 (by simpa using dIA.symm)) ex2' (by simpa using dAL)
    have ra2:=(ra.ex ex1 oI.one).ex ex2' oL.one
    have fr2:FR C (kinds .local ns ++ Γ.map fun x => (x.1,.cell)) (compEnvC scope cl L env) (tg ++ ρ) H' h2:=
     comp_fr hr0.fr more hTH e2 oL.2.1 ns2' (fun i rv hi => by
      refine xEAEA (hw i rv hi) fun w hw1 y r3 rw => ?_
      obtain rfl:=r3
      exact ⟨w,hw1,rw.ex ex2' oL.one⟩) htl hnd hsc hlk hcl'
    have hr2:Here C none (kinds .local ns ++ Γ.map fun x => (x.1,.cell)) (compEnvC scope cl L env) (tg ++ ρ) A n H' h2:=⟨fr2,fun _ e => (by cases e),hr0.ao,gg2⟩
    have next:∀ h3 tk3,EX C.T h2 h3 -> GG C H' h3 -> (truth t = false) -> ∃ m,m < items.length - i /\ CT C H' I acc L items f tot h0 s0 m { s0 with heap:=h3,toks:=tk3 }:=fun h3 tk3 e3 g3 ht => by
     rw [ht] at hfd'
     cases hfd'
     exact ⟨items.length - (i + 1),sub_next hlt,.mk (i + 1) h3 tk3 ⟨e2.trans e3,g3,it2.step e3 hTH oI.2.1,hlt,⟨vs,ys,z,PList.ex la2 e3 oA.2.1,ra2.ex e3 hTH,hz,htot,Nat.le_succ_of_le hle⟩,_,Ns.ex ns2' e3 oL.2.1⟩⟩
    have put:∀ h3 tk3,EX C.T h2 h3 -> GG C H' h3 -> truth t = true -> wpAny (model C.prog C.w) A (eval elt (compEnvC scope cl L env)) (fun x s₄ =>
      wpAny (model C.prog C.w) A (call (.builtin "list.append") [.ref acc,x]) (fun _ s₅ => ∃ m,m < items.length - i /\ CT C H' I acc L items f tot h0 s0 m s₅) Ex s₄) Ex { s0 with heap:=h3,toks:=tk3 }:=fun h3 tk3 e3 g3 ht => by
     rw [ht,if_pos rfl] at hfd'
     refine xEA (Option.map_eq_some_iff.mp hfd') fun y ey r2 => ?_
     obtain rfl:=r2
     refine ie.v helt ey (hr2.ex e3 g3) fun vy h4 tk4 e4 g4 ry => ?_
     have la4:=PList.ex (PList.ex la2 e3 oA.2.1) e4 oA.2.1
     have ra4:=(ra2.ex e3 hTH).ex e4 hTH
     have hsz:vs.size = ys.length:=by have:=ra.length; rwa [Array.length_toList] at this
     refine wpAny_list_append_plain la4 (fun h5 la5 sb5 => ?_) (by lia)
     have ex5:EX [acc] h4 h5:=same_ex sb5
     have gg5:=g4.step1 oA ex5 (PList.live la5)
     refine ⟨items.length - (i + 1),sub_next hlt,.mk (i + 1) h5 tk4 ⟨((e2.trans e3).trans e4).fresh nA ex5,gg5,((it2.step e3 hTH oI.2.1).step e4 hTH oI.2.1).step ex5 oA.one (by simpa using dIA),hlt,⟨_,ys ++ [y],z,la5,?_,hz,by rw [List.append_assoc]; exact htot,by rw [List.length_append]; exact Nat.succ_le_succ hle⟩,_,Ns.ex (Ns.ex (Ns.ex ns2' e3 oL.2.1) e4 oL.2.1) ex5 (by simpa using dAL.symm)⟩⟩
     rw [Array.toList_push]
     exact (ra4.ex ex5 oA.one).append (.cons (ry.ex ex5 oA.one) .nil)
    rcases hifs with ⟨rfl,rfl⟩ | ⟨c',rfl,hc'⟩
    ·refine wpAny_tests_nil ?_
     have ht:truth t = true:=by cases hc; rfl
     rw [if_pos rfl]
     exact put h2 tk2 (EX.refl _) gg2 ht
    ·refine wpAny_tests_one (ic.c (Q:=_) hc' hc hr2 fun h3 tk3 e3 g3 => ?_)
     cases ht:truth t with
     | true => rw [if_pos rfl]; exact put h3 tk3 e3 g3 ht
     | false => exact next h3 tk3 e3 g3 ht
   ·have hi:i = items.length:=by have:=ci.le; lia
    subst hi
    refine iter_done hh ci.it fun h1 tk1 ex1 => ?_
    dsimp only
    refine xEEEAAAA (ci.ac) fun vs ys rest la ra hcomp htot hle => ?_
    rw [List.drop_length] at hcomp
    cases hcomp
    rw [List.append_nil] at htot; subst htot
    obtain ⟨mL,nsL⟩:=ci.ns
    refine fin h1 tk1 vs (ci.ex.fresh nI ex1) (ci.gg.drop1 oI ex1 (fun b q => q) fun b m => ⟨hTH b m,fun e => oI.2.1 (e ▸ m)⟩) (PList.ex la ex1 (by simpa using dIA.symm)) (ra.ex ex1 oI.one) ⟨mL,Ns.ex nsL ex1 (by simpa using dIL.symm)⟩
 refine codeAny_compStart_list hloop (iter_self hh ci.it hloop)
theorem compD_len {f:PyData -> Option (Option PyData)}:∀ {l r:List PyData},compD f l = some r -> r.length <= l.length
 | [],r,h => by cases h; exact Nat.le_refl _
 | x :: l,r,h => by
  refine xEA (Option.bind_eq_some_iff.mp h) fun o _ h1 => ?_
  refine xEA (Option.map_eq_some_iff.mp h1) fun ys h2 r2 => ?_
  obtain rfl:=r2
  cases o with
  | none => exact Nat.le_succ_of_le (compD_len h2)
  | some y => exact Nat.succ_le_succ (compD_len h2)
theorem comp_core {it c e:E} (ii:Snd C F n it) (ic:Snd C F n c) (ie:Snd C F n e) {lam:Option Pos} {Γ:List (Str × NameKind)} {env:Env} {ρ:List RV} {A:Around} {H:Addr -> Prop} {s:Shared} {Ex:Value -> Shared -> Prop} {Q:Value -> Shared -> Prop} {use:Option (Value -> Sem Unit)} {elt tgt iter:PySem.Expr} {ifs:List PySem.Expr} {scope:Scope} {pos pos':Pos} {ns:List Str} {di:PyData} {items tot:List PyData}
  (htg:tgtNames tgt = some ns) (hnd:ns.Nodup) (hit:isI C.G lam it Γ env.scope iter = true) (hsc:scopeOk scope env.scope = true) (hlk:lookups scope ns .local = true)
  (hifs:(ifs = [] /\ c = .bool true) \/ ∃ c',ifs = [c'] /\ isX C.G none c true (kinds .local ns ++ Γ.map fun x => (x.1,.cell)) (relabelS scope env.scope) c' = true)
  (helt:isX C.G none e false (kinds .local ns ++ Γ.map fun x => (x.1,.cell)) (relabelS scope env.scope) elt = true)
  (ei:evE F it ρ = some di) (hitems:itemsD di = some items) (hcd:compD (fun x => (bindT ns.length x).bind fun tg => (evE F c (tg ++ ρ)).bind fun t => if truth t then (evE F e (tg ++ ρ)).map some else some none) items = some tot)
  (hr:Here C lam Γ env ρ A n H s.heap)
  (fin:∀ (H2:Addr -> Prop) (acc L:Addr) (h:Heap) (tk:Nat) (vs:Array Value),EX C.T s.heap h -> (∀ b,H b -> H2 b) -> (∀ b,H2 b -> H b \/ s.heap.get? b = none) -> GG C H2 h -> Own C H2 acc -> Own C H2 L -> s.heap.get? acc = none -> s.heap.get? L = none -> acc ≠ L ->
   h.PlainList acc vs -> Rds H2 h vs.toList tot -> (∃ m,h.Ns L m) -> tot.length <= big -> compPost (model C.prog C.w) A Ex use Q (.ref acc) L (.ok .next) { s with heap:=h,toks:=tk }) :
  wpAny (model C.prog C.w) A (comprehension (.ListComp elt [⟨tgt,iter,ifs,0⟩] scope pos) scope env pos' (newList []) false (eval iter env) use) Q Ex s:=by
 obtain ⟨hkind,hnames⟩:=scopeOk_inv hsc
 refine xEA (closureFor_cells (scope:=scope) (env:=env) fun x hx hf => hr.fr.cell x.1 ((hnames x hx).2.2 hf)) fun cl hcl hcl' => ?_
 refine wpAny_comprehension_free (g:=⟨tgt,iter,ifs,0⟩) (gs:=[]) rfl (folded_pure hit) hcl hkind (fun x hx => (hnames x hx).2.1) ?_
 refine ii.i hit ei hitems hr fun hbig h0 tk0 oI' ke0 g0 hoI iter0 => ?_
 have hr0:=hr.ex ke0 g0
 have lt1:(h0.push oI').objs.size = h0.objs.size + 1:=Heap.size_push _ _
 refine wpAny_newList (M:=model C.prog C.w) ?_ (show 0 <= sizeLine by decide)
 show wpAny _ _ (newFunctionEnv scope env.globals cl [] env.qual none .none (some env)) _ _ _
 dsimp only
 have g1:=g0.hideNew oI' hoI
 have g2:=g1.hideNew { cls:=.type "list",data:=.seq ([]:List Value).toArray } rfl
 have g3:=g2.hideNew { cls:=.type "dict",data:=.dict #[] } rfl
 have o1:=own_new g0
 have o2:=own_new g1
 have o3:=own_new g2
 have it2:=iter0.more hide_new hide_of
 generalize hh1:h0.push oI' = h1 at *
 have lt2:(h1.push { cls:=.type "list",data:=.seq ([]:List Value).toArray }).objs.size = h1.objs.size + 1:=Heap.size_push _ _
 have x1:Ext h0 h1:=by rw [<- hh1]; exact Ext.push _
 have lA:(h1.push { cls:=.type "list",data:=.seq ([]:List Value).toArray }).PlainList h1.objs.size #[]:=⟨_,Heap.get?_push_size _ rfl⟩
 have x2:Ext h1 (h1.push { cls:=.type "list",data:=.seq ([]:List Value).toArray }):=Ext.push _
 generalize hh2:h1.push { cls:=.type "list",data:=.seq ([]:List Value).toArray } = h2 at *
 have x3:Ext h2 (h2.push { cls:=.type "dict",data:=.dict #[] }):=Ext.push _
 refine wpAny_newFunctionEnv (fun x hx => (hnames x hx).1) (by simp) (fun h3 ns3 sb3 => ?_) hkind
 dsimp only at ns3 sb3
 have ns3':h3.Ns h2.objs.size (fun x => List.lookup x ([]:List (Str × Value)).reverse):=ns3
 have ex3:EX [h2.objs.size] (h2.push { cls:=.type "dict",data:=.dict #[] }) h3:=same_ex sb3
 have gg3:=g3.step1 o3 ex3 (Ns.live ns3')
 have nI:h0.get? h0.objs.size = none:=Heap.get?_none_of_le (Nat.le_refl _)
 have nA:h0.get? h1.objs.size = none:=Heap.get?_none_of_le (by lia)
 have nL:h0.get? h2.objs.size = none:=Heap.get?_none_of_le (by lia)
 have n01:h0.objs.size ≠ h1.objs.size:=by lia
 have n02:h0.objs.size ≠ h2.objs.size:=by lia
 have n12:h1.objs.size ≠ h2.objs.size:=by lia
 have ex03:EX C.T h0 h3:=EX.fresh (Ext.ex (Ext.trans (Ext.trans x1 x2) x3)) nL ex3
 have sub:∀ a,H a -> Hide (Hide (Hide H h0.objs.size) h1.objs.size) h2.objs.size a:=fun a m => .inl (.inl (.inl m))
 have oI:=(o1.more (hide_of (b:=h1.objs.size))).more (hide_of (b:=h2.objs.size))
 have oA:=o2.more (hide_of (b:=h2.objs.size))
 have it3:IterOk C (Hide (Hide (Hide H h0.objs.size) h1.objs.size) h2.objs.size) h0.objs.size items 0 h3:=
  (((it2.step (X:=[]) (Ext.ex x2) no_mem List.not_mem_nil).more hide_new hide_of).step (X:=[]) (Ext.ex x3) no_mem List.not_mem_nil).step ex3 o3.one (fun m => n02 (List.mem_singleton.mp m))
 have la3:h3.PlainList h1.objs.size #[]:=PList.ex (PList.ex lA (X:=[]) (Ext.ex x3) List.not_mem_nil) ex3 (fun m => n12 (List.mem_singleton.mp m))
 have more:∀ a,Hide (Hide (Hide H h0.objs.size) h1.objs.size) h2.objs.size a -> H a \/ h0.get? a = none:=fun a m => by
  rcases m with ((m | rfl) | rfl) | rfl
  ·exact .inl m
  ·exact .inr nI
  ·exact .inr nA
  ·exact .inr nL
 refine comp_turns (tk:=tk0) (h:=h3) ic ie hr0 more sub oI oA o3 nI nA nL n01 n02 n12 htg hnd hsc hlk hifs helt hcl' hbig (fun h tk vs ex gg la ra ns => ?_) ⟨ex03,gg3,it3,Nat.zero_le _,⟨#[],[],tot,la3,.nil,hcd,rfl,Nat.le_refl _⟩,_,ns3'⟩
 have notI:∀ b,H b -> b ≠ h0.objs.size:=fun b m e => by
  obtain ⟨o,eo⟩:=g0.live b m
  rw [e,nI] at eo; cases eo
 have none_s:∀ a,a ∉ C.T -> h0.get? a = none -> s.heap.get? a = none:=fun a m e => EX.none_of ke0 m e
 refine fin (fun b => Hide (Hide (Hide H h0.objs.size) h1.objs.size) h2.objs.size b /\ b ≠ h0.objs.size) h1.objs.size h2.objs.size h tk vs (ke0.trans ex) (fun b m => ⟨sub b m,notI b m⟩) (fun b m => ?_) gg ⟨⟨oA.1,n01.symm⟩,oA.2⟩ ⟨⟨o3.1,n02.symm⟩,o3.2⟩
  (none_s _ oA.2.1 nA) (none_s _ o3.2.1 nL) n12 la (ra.less fun b m => m.1) ns (Nat.le_trans (compD_len hcd) hbig)
 rcases more b m.1 with q | q
 ·exact .inl q
 ·by_cases hb:H b
  ·exact .inl hb
  ·refine .inr ?_
   by_cases hT:b ∈ C.T
   ·exact (hb (hr.gg.hid b hT)).elim
   ·exact none_s b hT q
theorem s_comp {k:Nat} {it c e:E} (ii:Snd C F n it) (ic:Snd C F n c) (ie:Snd C F n e):Snd C F n (.comp k it c e):=Snd.ofV rfl rfl (by
  intro lam Γ sc x h
  refine ⟨isX_comp_eq.trans (isX_comp_eq.symm.trans h),?_⟩
  exact isX_comp (motive:=fun x => plainX x = true) h fun _ _ _ _ _ _ _ _ _ _ _ _ _ _ _ => rfl) (by
 intro lam Γ env ρ x d A H s Q Ex hx hev hr kd
 apply isX_comp (x:=x) hx; intro elt tgt iter ifs scope pos ns htg hk hnd hit hsc hlk hifs helt
 subst hk
 refine obind hev fun items hev1 hev => ?_
 refine xEA (Option.map_eq_some_iff.mp hev) fun tot hcd r2 => ?_
 obtain rfl:=r2
 refine obind hev1 fun di ei hitems => ?_
 rw [eval_ListComp]
 refine comp_core ii ic ie htg hnd hit hsc hlk hifs helt ei hitems hcd hr fun H2 acc L h tk vs ex sub mo gg oA oL nA nL dAL la ra ns hb => ?_
 obtain ⟨m,hm⟩:=ns
 refine ⟨m,hm,fun h' sb => ?_⟩
 have exL:EX [L] h h':=same_ex sb
 have notA:∀ a,s.heap.get? a = none -> ¬ H a:=fun a e q => by
  obtain ⟨o,eo⟩:=hr.gg.live a q
  rw [e] at eo; cases eo
 have ggL:GG C H h':=gg.drop1 oL exL (fun b q => ⟨sub b q,fun e => notA L nL (e ▸ q)⟩) hr.gg.hid
 refine kd _ h' tk (ex.fresh nL exL) ggL ?_
 exact Rd.ofList hb (notA acc nA) (PList.ex la exL (fun m => dAL (List.mem_singleton.mp m))).isList ((ra.ex exL oL.one).less sub))
theorem snd (K:CxOk C) (KF:FnsOk C) (FO:FOk C F n):∀ e,Snd C F n e:=by
 intro e
 induction e with
 | nil => exact s_nil
 | cons a b ia ib => exact s_cons ia ib
 | var i => exact s_var
 | none => exact s_none
 | bool b => exact s_bool
 | int i => exact s_int
 | str s => exact s_str
 | gstr n s => exact s_gstr K
 | neg a ia => exact s_neg ia
 | bin op a b ia ib => exact s_bin ia ib
 | cmp op a b ia ib => exact s_cmp ia ib
 | band es ie => exact s_band ie
 | bor es ie => exact s_bor ie
 | not_ a ia => exact s_not ia
 | ite c a b ic ia ib => exact s_ite ic ia ib
 | tup es ie => exact s_tup ie
 | lst es ie => exact s_lst ie
 | comp k it c e ii ic ie => exact s_comp ii ic ie
 | rng a ia => exact s_rng K ia
 | idx a b ia ib => exact s_idx ia ib
 | slc a lo hi ia il ih => exact s_slc ia il ih
 | call f es ie => exact s_call K KF FO ie
 | len a ia => exact s_len K ia
 | chr_ a ia => exact s_chr K ia
 | meth m a es ia ie => exact s_meth ia ie
 | fmt1 a ia => exact s_fmt1 ia
 | fmt2 a b ia ib => exact s_fmt2 ia ib
 | full p a ia => exact s_full K ia
 | subS p r a ir ia => exact s_subS K ir ia
 | subL p a ia => exact s_subL K ia
 | subn p a ia => exact s_subn K ia
 | grp i => exact s_grp
 | span i => exact s_span
 | mstr i => exact s_mstr
 | hasm i => exact s_hasm
 | callm f i => exact s_callm K KF FO
end
inductive Itm | fz (d:PyData) | ow (l:List PyData)
inductive Sl | rv (r:RV) | own (l:List Itm)
noncomputable def itmD:Itm -> PyData
 | .fz d => d
 | .ow l => .list l
noncomputable def slRV:Sl -> RV
 | .rv r => r
 | .own _ => .un
noncomputable def rvs (σ:List Sl):List RV:=σ.map slRV
noncomputable def getSl (σ:List Sl) (i:Nat):Sl:=(σ[i]?).getD (.rv .un)
noncomputable def frzSl:Sl -> Sl
 | .own l => .rv (.d (.list (l.map itmD)))
 | x => x
theorem getRV_rvs {σ:List Sl} {i:Nat}:getRV (rvs σ) i = slRV (getSl σ i):=by
 unfold getRV rvs getSl
 rw [List.getElem?_map]
 cases σ[i]? <;> rfl
theorem getSl_set {σ:List Sl} {i:Nat} {x:Sl} (h:i < σ.length):getSl (σ.set i x) i = x:=by
 unfold getSl; rw [List.getElem?_set_self h]; rfl
theorem getSl_set_ne {σ:List Sl} {i j:Nat} {x:Sl} (h:i ≠ j):getSl (σ.set i x) j = getSl σ j:=by
 unfold getSl; rw [List.getElem?_set_ne h]
noncomputable def HC (B:Addr -> Prop) (O:Nat -> List Addr):Addr -> Prop:=fun a => B a \/ ∃ i,a ∈ O i
noncomputable def HideL (B:Addr -> Prop) (l:List Addr):Addr -> Prop:=fun b => B b \/ b ∈ l
noncomputable def upd (O:Nat -> List Addr) (i:Nat) (l:List Addr):Nat -> List Addr:=fun j => if j = i then l else O j
theorem upd_self {O:Nat -> List Addr} {i:Nat} {l:List Addr}:upd O i l i = l:=if_pos rfl
theorem upd_ne {O:Nat -> List Addr} {i j:Nat} {l:List Addr} (h:j ≠ i):upd O i l j = O j:=if_neg h
noncomputable def ItmR (H:Addr -> Prop) (h:Heap) (v:Value):Itm -> List Addr -> Prop
 | .fz d,O => Rd H h v d /\ O = []
 | .ow ds,O => ∃ b ws,v = .ref b /\ h.PlainList b ws /\ Rds H h ws.toList ds /\ ds.length <= big /\ O = [b]
noncomputable def ItmsR (H:Addr -> Prop) (h:Heap):List Value -> List Itm -> List Addr -> Prop
 | [],[],O => O = []
 | v :: vs,x :: xs,O => ∃ O1 O2,ItmR H h v x O1 /\ ItmsR H h vs xs O2 /\ O = O1 ++ O2
 | _,_,_ => False
noncomputable def SlR (C:Cx) (H:Addr -> Prop) (env:Env) (h:Heap) (x:Str) (k:NameKind):Sl -> List Addr -> Prop
 | .rv r,O => O = [] /\ (r = .un \/ ∃ v,Loads C.T env h x k v /\ RVok H h v r)
 | .own l,O => ∃ a vs O',Loads C.T env h x k (.ref a) /\ h.PlainList a vs /\ ItmsR H h vs.toList l O' /\ l.length <= big /\ O = a :: O'
section
variable {C:Cx} {H H':Addr -> Prop} {h h':Heap} {X:List Addr} {env:Env} {x:Str} {k:NameKind}
theorem ItmR.ex {v:Value} {y:Itm} {O:List Addr} (r:ItmR H h v y O) (e:EX X h h') (hX:∀ a ∈ X,H a) (hO:∀ a ∈ O,a ∉ X):ItmR H h' v y O:=by
 cases y with
 | fz d => exact ⟨r.1.ex e hX,r.2⟩
 | ow ds =>
  refine xEEAAAA (r) fun b ws r2 l rs hb r6 => ?_
  obtain rfl:=r2
  obtain rfl:=r6
  exact ⟨b,ws,rfl,PList.ex l e (hO b List.mem_cons_self),rs.ex e hX,hb,rfl⟩
theorem ItmsR.ind {M:List Value -> List Itm -> List Addr -> Prop} (n:M [] [] []) (c:∀ {v:Value} {vs:List Value} {y:Itm} {ys:List Itm} {O1 O2:List Addr},ItmR H h v y O1 -> M vs ys O2 -> M (v :: vs) (y :: ys) (O1 ++ O2)) {vs:List Value} {ys:List Itm} {O:List Addr} (r:ItmsR H h vs ys O):M vs ys O:=by
 induction vs generalizing ys O with
 | nil => cases ys with
  | nil => cases (show O = [] from r); exact n
  | cons y ys => exact r.elim
 | cons v vs ih => cases ys with
  | nil => exact r.elim
  | cons y ys => exact xEEAA r fun O1 O2 r1 r2 e => e ▸ c r1 (ih r2)
theorem ItmsR.ex {vs:List Value} {ys:List Itm} {O:List Addr} (r:ItmsR H h vs ys O) (k:EX X h h') (hX:∀ a ∈ X,H a):(∀ a ∈ O,a ∉ X) -> ItmsR H h' vs ys O:=
 ItmsR.ind (M:=fun vs ys O => (∀ a ∈ O,a ∉ X) -> ItmsR H h' vs ys O) (fun _ => rfl) (fun r1 ih hO => ⟨_,_,r1.ex k hX fun a m => hO a (List.mem_append_left _ m),ih fun a m => hO a (List.mem_append_right _ m),rfl⟩) r
theorem ItmR.mapH {v:Value} {y:Itm} {O:List Addr} (r:ItmR H h v y O) (k:∀ a,H' a -> H a \/ h.get? a = none):ItmR H' h v y O:=by
 cases y with
 | fz d => exact ⟨r.1.more k,r.2⟩
 | ow ds =>
  refine xEEAAAA (r) fun b ws r2 l rs hb r6 => ?_
  obtain rfl:=r2
  obtain rfl:=r6
  exact ⟨b,ws,rfl,l,rs.more k,hb,rfl⟩
theorem ItmsR.mapH {vs:List Value} {ys:List Itm} {O:List Addr} (r:ItmsR H h vs ys O) (k:∀ a,H' a -> H a \/ h.get? a = none):ItmsR H' h vs ys O:=
 ItmsR.ind (M:=ItmsR H' h) rfl (fun r1 ih => ⟨_,_,r1.mapH k,ih,rfl⟩) r
theorem SlR.ex {y:Sl} {O:List Addr} (r:SlR C H env h x k y O) (e:EX X h h') (hX:∀ a ∈ X,H a) (hO:∀ a ∈ O,a ∉ X) (hL:∀ v,Loads C.T env h x k v -> Loads C.T env h' x k v):SlR C H env h' x k y O:=by
 cases y with
 | rv r' => exact ⟨r.1,r.2.imp id fun ⟨v,l,q⟩ => ⟨v,hL v l,q.ex e hX⟩⟩
 | own l =>
  refine xEEEAAAA (r) fun a vs O' ld la is hb r7 => ?_
  obtain rfl:=r7
  exact ⟨a,vs,O',hL _ ld,PList.ex la e (hO a List.mem_cons_self),is.ex e hX (fun b m => hO b (List.mem_cons_of_mem _ m)),hb,rfl⟩
theorem SlR.mapH {y:Sl} {O:List Addr} (r:SlR C H env h x k y O) (kk:∀ a,H' a -> H a \/ h.get? a = none):SlR C H' env h x k y O:=by
 cases y with
 | rv r' => exact ⟨r.1,r.2.imp id fun ⟨v,l,q⟩ => ⟨v,l,q.more kk⟩⟩
 | own l =>
  refine xEEEAAAA (r) fun a vs O' ld la is hb r7 => ?_
  obtain rfl:=r7
  exact ⟨a,vs,O',ld,la,is.mapH kk,hb,rfl⟩
theorem ItmsR.length {vs:List Value} {ys:List Itm} {O:List Addr} (r:ItmsR H h vs ys O):vs.length = ys.length:=
 ItmsR.ind (M:=fun vs ys _ => vs.length = ys.length) rfl (fun _ ih => congrArg Nat.succ ih) r
theorem ItmsR.ofRds {vs:List Value} {ds:List PyData} (r:Rds H h vs ds):ItmsR H h vs (ds.map .fz) []:=by
 induction vs generalizing ds with
 | nil => cases r; rfl
 | cons v vs ih => cases r with | cons x r => exact ⟨[],[],⟨x,rfl⟩,ih r,rfl⟩
theorem ItmsR.snoc {vs:List Value} {ys:List Itm} {O:List Addr} {v:Value} {y:Itm} {O1:List Addr} (r:ItmsR H h vs ys O) (q:ItmR H h v y O1):ItmsR H h (vs ++ [v]) (ys ++ [y]) (O ++ O1):=
 ItmsR.ind (M:=fun vs ys O => ItmsR H h (vs ++ [v]) (ys ++ [y]) (O ++ O1)) ⟨O1,[],q,rfl,(List.append_nil _).symm⟩ (fun r1 ih => ⟨_,_,r1,ih,List.append_assoc ..⟩) r
theorem ItmR.rd {v:Value} {y:Itm} {O:List Addr} (r:ItmR H h v y O) (k:∀ a,H' a -> H a) (n:∀ a ∈ O,¬ H' a):Rd H' h v (itmD y):=by
 cases y with
 | fz d => exact r.1.less k
 | ow ds =>
  refine xEEAAAA r fun b ws r2 l rs hb r6 => ?_
  obtain rfl:=r2
  exact Rd.ofList hb (n b (r6 ▸ List.mem_cons_self)) l.isList (rs.less k)
theorem ItmsR.rds {vs:List Value} {ys:List Itm} {O:List Addr} (r:ItmsR H h vs ys O) (k:∀ a,H' a -> H a):(∀ a ∈ O,¬ H' a) -> Rds H' h vs (ys.map itmD):=
 ItmsR.ind (M:=fun vs ys O => (∀ a ∈ O,¬ H' a) -> Rds H' h vs (ys.map itmD)) (fun _ => .nil) (fun r1 ih n => .cons (r1.rd k fun a m => n a (List.mem_append_left _ m)) (ih fun a m => n a (List.mem_append_right _ m))) r
end
structure FE (C:Cx) (lam:Option Pos) (Γ:List (Str × NameKind)) (env:Env) (H0 B:Addr -> Prop) (h0:Heap):Prop where
 kind:env.scope.kind = .function
 glob:env.globals = mainGlobals
 bui:env.builtins = builtinsNs
 cell:∀ x,env.kindOf x = some .cell -> (env.cells.lookup x).isSome = true
 kd:∀ (i:Nat) x k,Γ[i]? = some (x,k) -> env.kindOf x = some k /\ (k = .local \/ k = .cell)
 nd:∀ (i j:Nat) x k k',Γ[i]? = some (x,k) -> Γ[j]? = some (x,k') -> i = j
 loc:Own C B env.locals
 locF:h0.get? env.locals = none
 cel:∀ x c,env.cells.lookup x = some c -> Own C B c /\ h0.get? c = none /\ c ≠ env.locals
 inj:∀ x y c,env.cells.lookup x = some c -> env.cells.lookup y = some c -> x = y
 sub:∀ a,H0 a -> B a
 bac:∀ a,B a -> H0 a \/ h0.get? a = none
 g0:GG C H0 h0
 lm:∀ pos,lam = some pos -> ∃ l ∈ C.lams,env.code = .ref l.c /\ l.pos = pos /\ l.q = env.qual ++ "<lambda>"
structure SR (C:Cx) (Γ:List (Str × NameKind)) (env:Env) (B:Addr -> Prop) (h0:Heap) (h:Heap) (σ:List Sl) (O:Nat -> List Addr):Prop where
 ex:EX C.T h0 h
 gg:GG C (HC B O) h
 len:σ.length = Γ.length
 ns:∃ m,h.Ns env.locals m
 cel:∀ x c,env.cells.lookup x = some c -> ∃ v,h.IsCell c v
 sl:∀ (i:Nat) x k,Γ[i]? = some (x,k) -> SlR C (HC B O) env h x k (getSl σ i) (O i)
 out:∀ i,Γ.length <= i -> O i = []
 own:∀ i a,a ∈ O i -> a ∉ C.T /\ C.hb.get? a = none /\ h0.get? a = none /\ ¬ B a
 dis:∀ i j a,a ∈ O i -> a ∈ O j -> i = j
 ndp:∀ i,(O i).Nodup
section
variable {C:Cx} {lam:Option Pos} {Γ:List (Str × NameKind)} {env:Env} {H0 B B':Addr -> Prop} {h0 h h':Heap} {σ:List Sl} {O:Nat -> List Addr} {n:Nat} {A:Around}
theorem FE.tB (f:FE C lam Γ env H0 B h0):∀ a ∈ C.T,B a:=fun a m => f.sub a (f.g0.hid a m)
theorem SR.here (f:FE C lam Γ env H0 B h0) (r:SR C Γ env B h0 h σ O) (ao:AOk A (n + 1)):Here C lam Γ env (rvs σ) A n (HC B O) h:=by
 refine ⟨⟨f.kind,f.glob,f.bui,f.cell,fun i x k hi => ?_,fun i x k hi hk => ?_⟩,f.lm,ao,r.gg⟩
 ·obtain ⟨h1,h2⟩:=f.kd i x k hi
  rcases h2 with rfl | rfl
  ·exact .inr ⟨rfl,by rw [h1]; exact fun h => by cases h⟩
  ·exact .inl rfl
 ·have:=r.sl i x k hi
  rw [getRV_rvs]
  cases hs:getSl σ i with
  | rv q => rw [hs] at this; exact this.2
  | own l => exact .inl rfl
theorem SR.step (f:FE C lam Γ env H0 B h0) (r:SR C Γ env B h0 h σ O) (e:EX C.T h h') (g:GG C (HC B O) h'):SR C Γ env B h0 h' σ O:=by
 refine ⟨r.ex.trans e,g,r.len,?_,fun x c hc => ?_,fun i x k hi => ?_,r.out,r.own,r.dis,r.ndp⟩
 ·obtain ⟨m,hm⟩:=r.ns; exact ⟨m,Ns.ex hm e f.loc.2.1⟩
 ·refine xEEA (r.cel x c hc) fun v o eo q => ?_
  exact ⟨v,o,e c o (f.cel x c hc).1.2.1 eo,q⟩
 ·exact (r.sl i x k hi).ex e (fun a m => .inl (f.tB a m)) (fun a m => (r.own i a m).1) fun v l => l.ex e
theorem SR.grow (f:FE C lam Γ env H0 B h0) (r:SR C Γ env B h0 h σ O) (hB:∀ a,B' a -> B a \/ (h.get? a = none /\ ∀ i,a ∉ O i)) (e:EX C.T h h') (g:GG C (HC B' O) h') (hT:∀ a ∈ C.T,B' a):SR C Γ env B' h0 h' σ O:=by
 refine ⟨r.ex.trans e,g,r.len,?_,fun x c hc => ?_,fun i x k hi => ?_,r.out,fun i a m => ?_,r.dis,r.ndp⟩
 ·obtain ⟨m,hm⟩:=r.ns; exact ⟨m,Ns.ex hm e f.loc.2.1⟩
 ·refine xEEA (r.cel x c hc) fun v o eo q => ?_
  exact ⟨v,o,e c o (f.cel x c hc).1.2.1 eo,q⟩
 ·refine ((r.sl i x k hi).mapH (H':=HC B' O) fun a m => ?_).ex e (fun a m => .inl (hT a m)) (fun a m => (r.own i a m).1) fun v l => l.ex e
  rcases m with m | m
  ·exact (hB a m).imp .inl fun q => q.1
  ·exact .inl (.inr m)
 ·refine xAAA (r.own i a m) fun h1 h2 h3 h4 => ?_
  refine ⟨h1,h2,h3,fun q => ?_⟩
  rcases hB a q with q | q
  ·exact h4 q
  ·exact q.2 i m
theorem FE.hide (f:FE C lam Γ env H0 B h0) {l:List Addr} (hl:∀ a ∈ l,h0.get? a = none):FE C lam Γ env H0 (HideL B l) h0:=
 ⟨f.kind,f.glob,f.bui,f.cell,f.kd,f.nd,f.loc.more fun _ m => .inl m,f.locF,fun x c hc => ⟨(f.cel x c hc).1.more fun _ m => .inl m,(f.cel x c hc).2⟩,f.inj,fun a m => .inl (f.sub a m),fun a m => by
  rcases m with m | m
  ·exact f.bac a m
  ·exact .inr (hl a m),f.g0,f.lm⟩
theorem SR.unhide (f:FE C lam Γ env H0 B h0) {l:List Addr} (r:SR C Γ env (HideL B l) h0 h σ O):SR C Γ env B h0 h σ O:=by
 have k:∀ a,HC B O a -> HC (HideL B l) O a:=fun a m => m.imp .inl id
 refine ⟨r.ex,r.gg.less k fun a m => .inl (f.tB a m),r.len,r.ns,r.cel,fun i x kk hi => (r.sl i x kk hi).mapH fun a m => .inl (k a m),r.out,fun i a m => ?_,r.dis,r.ndp⟩
 refine xAAA (r.own i a m) fun h1 h2 h3 h4 => ?_
 exact ⟨h1,h2,h3,fun q => h4 (.inl q)⟩
theorem SR.nlen (r:SR C Γ env B h0 h σ O) {i:Nat} {x:Str} {k:NameKind} (hi:Γ[i]? = some (x,k)):i < σ.length:=by
 rw [r.len]; exact (List.getElem?_eq_some_iff.mp hi).1
theorem Loads.keep (f:FE C lam Γ env H0 B h0) {c:Addr} (hc:¬ B c) (e:EX [c] h h') {y:Str} {ky:NameKind} {w:Value} (ld:Loads C.T env h y ky w):Loads C.T env h' y ky w:=by
 rcases ld with ⟨rfl,n,m2,hm2,hw⟩ | ⟨rfl,c',n,hl,o,eo,q⟩
 ·exact .inl ⟨rfl,n,m2,Ns.ex hm2 e (fun q => hc (by rw [<- List.mem_singleton.mp q]; exact f.loc.1)),hw⟩
 ·exact .inr ⟨rfl,c',n,hl,o,e c' o (fun q => hc (by rw [<- List.mem_singleton.mp q]; exact (f.cel y c' hl).1.1)) eo,q⟩
theorem SR.ns' (f:FE C lam Γ env H0 B h0) (r:SR C Γ env B' h0 h σ O) {c:Addr} (hc:¬ B c) (e:EX [c] h h'):∃ m,h'.Ns env.locals m:=
 r.ns.imp fun m hm => Ns.ex hm e fun q => hc (by rw [<- List.mem_singleton.mp q]; exact f.loc.1)
theorem SR.cel' (f:FE C lam Γ env H0 B h0) (r:SR C Γ env B' h0 h σ O) {c:Addr} (hc:¬ B c) (e:EX [c] h h') (y:Str) (c':Addr) (hy:env.cells.lookup y = some c'):∃ v,h'.IsCell c' v:=by
 refine xEEA (r.cel y c' hy) fun v o eo q => ?_
 exact ⟨v,o,e c' o (fun q => hc (by rw [<- List.mem_singleton.mp q]; exact (f.cel y c' hy).1.1)) eo,q⟩
end
set_option genCtorIdx false in
inductive Bk
 | nil
 | frz (i:Nat) (r:Bk)
 | asg (i:Nat) (e:E) (r:Bk)
 | own (i:Nat) (e:E) (r:Bk)
 | own1 (i:Nat) (r:Bk)
 | app (i:Nat) (e:E) (r:Bk)
 | appo (i:Nat) (e:E) (r:Bk)
 | appl (i:Nat) (e:E) (r:Bk)
 | set00 (i:Nat) (s:Str) (r:Bk)
 | aug (i:Nat) (op:Operator) (e:E) (r:Bk)
 | unp (is:List Nat) (e:E) (r:Bk)
 | srch (i:Nat) (p:Pat) (e:E) (r:Bk)
 | ite (c:E) (a b r:Bk)
 | iteR (c:E) (i:Nat) (f:Str) (es:E) (a b r:Bk)
 | whl (c:E) (b r:Bk)
 | for_ (is:List Nat) (it:E) (b r:Bk)
 | ret (e:E)
 | asrt (c:E) (r:Bk)
 | asrtN (i:Nat) (r:Bk)
noncomputable abbrev Fl:=Option PyData × List Sl
noncomputable def setAll:List Sl -> List Nat -> List RV -> List Sl
 | σ,i :: is,r :: rs => setAll (σ.set i (.rv r)) is rs
 | σ,_,_ => σ
noncomputable def forD (step:PyData -> List Sl -> Option Fl):List PyData -> List Sl -> Option Fl
 | [],σ => some (none,σ)
 | x :: xs,σ => (step x σ).bind fun q => match q.1 with
  | none => forD step xs q.2
  | some d => some (some d,q.2)
noncomputable def whlD (cond:List Sl -> Option PyData) (step:List Sl -> Option Fl):Nat -> List Sl -> Option Fl
 | 0,_ => none
 | n + 1,σ => (cond σ).bind fun t => if truth t then (step σ).bind fun q => (match q.1 with
   | none => whlD cond step n q.2
   | some d => some (some d,q.2))
  else some (none,σ)
noncomputable def wfuel:Nat:=20000
noncomputable def isStrD:PyData -> Bool
 | .str _ => true
 | _ => false
theorem isStrD_inv {x:PyData} (h:isStrD x = true):∃ y,x = .str y:=by
 cases x <;> first | exact ⟨_,rfl⟩ | exact (Bool.false_ne_true h).elim
noncomputable def slD:Sl -> Option PyData
 | .rv r => valRV r
 | _ => none
noncomputable def augOk (op:Operator) (x:PyData):Bool:=op == .Add && isStrD x
noncomputable def onOwn (σ:List Sl) (i:Nat) (f:List Itm -> Option (List Itm)):Option (List Sl):=match getSl σ i with
 | .own l => (f l).bind fun l' => if l'.length <= big then some (σ.set i (.own l')) else none
 | _ => none
noncomputable def srchRV (p:Pat) (x:Str):RV:=match srchD p x.cps with
 | none => .d .none
 | some (st,hd,gr) => .mt x st hd gr
noncomputable def isLst:PyData -> Option (List PyData)
 | .list xs => some xs
 | _ => none
noncomputable def strD (d:PyData):Option Str:=match d with
 | .str x => if (tl x).length <= 10000 then some x else none
 | _ => none
noncomputable def augD (op:Operator) (s:Sl) (y:PyData):Option PyData:=(slD s).bind fun x => if augOk op x then binD op x y else none
noncomputable def appOw (d:PyData):Itm -> Option Itm
 | .ow ds => if ds.length < big then some (.ow (ds ++ [d])) else none
 | .fz _ => none
noncomputable def appLast (d:PyData):List Itm -> Option (List Itm)
 | [] => none
 | x :: r => if r.isEmpty then (appOw d x).map fun y => [y] else (appLast d r).map (x :: ·)
noncomputable def preP (s:Str):PyData -> Option PyData:=tP fun xs => match xs with
 | [] => none
 | a :: r => oneL (fun v => (binD .Add (.str s) a).map fun z => .tuple [z,v]) r
noncomputable def preI (s:Str):Itm -> Option PyData
 | .fz _ => none
 | .ow ds => match ds with
  | [] => none
  | d :: r => (preP s d).map fun z => .list (z :: r)
noncomputable def preL (s:Str):List Itm -> Option (List PyData)
 | [] => none
 | x :: r => (preI s x).map fun z => z :: r.map itmD
noncomputable def ownP (f:List Itm -> Option (List PyData)):Sl -> Option (List PyData)
 | .own l => f l
 | _ => none
noncomputable def lstD:PyData -> Bool
 | .list _ => true
 | _ => false
noncomputable def lstRV:RV -> Bool
 | .d x => lstD x
 | _ => false
noncomputable def lstSl:Sl -> Bool
 | .rv r => lstRV r
 | _ => false
theorem lstSl_inv {s:Sl} (h:lstSl s = true):∃ l,s = .rv (.d (.list l)):=by
 cases s with
 | own _ => exact (Bool.false_ne_true h).elim
 | rv r => cases r with
  | d x => cases x <;> first | exact ⟨_,rfl⟩ | exact (Bool.false_ne_true h).elim
  | _ => exact (Bool.false_ne_true h).elim
noncomputable def evS (F:Str -> List RV -> Option PyData):Bk -> List Sl -> Option Fl
 | .nil,σ => some (none,σ)
 | .frz i r,σ => evS F r (σ.set i (frzSl (getSl σ i)))
 | .asg i e r,σ => (evE F e (rvs σ)).bind fun d => evS F r (σ.set i (.rv (.d d)))
 | .own i e r,σ => ((evE F e (rvs σ)).bind isLst).bind fun xs => evS F r (σ.set i (.own (xs.map .fz)))
 | .own1 i r,σ => evS F r (σ.set i (.own [.ow []]))
 | .app i e r,σ => (evE F e (rvs σ)).bind fun d => (onOwn σ i fun l => some (l ++ [.fz d])).bind fun σ' => evS F r σ'
 | .appo i e r,σ => ((evE F e (rvs σ)).bind isLst).bind fun xs => (onOwn σ i fun l => some (l ++ [.ow xs])).bind fun σ' => evS F r σ'
 | .appl i e r,σ => (evE F e (rvs σ)).bind fun d => (onOwn σ i (appLast d)).bind fun σ' => evS F r σ'
 | .set00 i s r,σ => (ownP (preL s) (getSl σ i)).bind fun xs => evS F r (σ.set i (.rv (.d (.list xs))))
 | .aug i op e r,σ => (evE F e (rvs σ)).bind fun y => (augD op (getSl σ i) y).bind fun z => evS F r (σ.set i (.rv (.d z)))
 | .unp is e r,σ => (evE F e (rvs σ)).bind fun d => (bindT is.length d).bind fun tg => evS F r (setAll σ is tg)
 | .srch i p e r,σ => ((evE F e (rvs σ)).bind strD).bind fun x => evS F r (σ.set i (.rv (srchRV p x)))
 | .ite c a b r,σ => (evE F c (rvs σ)).bind fun t => (if truth t then evS F a σ else evS F b σ).bind fun q => match q.1 with
  | none => evS F r q.2
  | some d => some (some d,q.2)
 | .iteR c i f es a b r,σ => (evE F c (rvs σ)).bind fun t => (if truth t then ((evE F (.call f es) (rvs σ)).bind rspD).bind fun d => evS F a (σ.set i (.rv (.d d))) else evS F b σ).bind fun q => match q.1 with
  | none => evS F r q.2
  | some d => some (some d,q.2)
 | .whl c b r,σ => (whlD (fun σ => evE F c (rvs σ)) (evS F b) wfuel σ).bind fun q => match q.1 with
  | none => evS F r q.2
  | some d => some (some d,q.2)
 | .for_ is it b r,σ => ((evE F it (rvs σ)).bind itemsD).bind fun items => (forD (fun x σ => (bindT is.length x).bind fun tg => evS F b (setAll σ is tg)) items σ).bind fun q => match q.1 with
  | none => evS F r q.2
  | some d => some (some d,q.2)
 | .ret e,σ => (evE F e (rvs σ)).map fun d => (some d,σ)
 | .asrt c r,σ => (evE F c (rvs σ)).bind fun t => if truth t then evS F r σ else none
 | .asrtN i r,σ => if lstSl (getSl σ i) then evS F r σ else none
noncomputable def swapB (sc:Scope) (v:Expr) (x:Str) (px:Pos):Bool:=vLC0 (fun _ _ s => (lk sc x == some .local) && px.line == v.pos.line && !(s.names.any fun (n,k) => n == x && (k == .local || k == .cell))) v
noncomputable def freshL (sc:Scope) (v:Expr) (x:Str) (px:Pos):Bool:=v.ctorIdx == 24 || swapB sc v x px
noncomputable def isTgt (Γ:List (Str × NameKind)) (sc:Scope) (is:List Nat) (ns:List Str):Bool:=
 (is.length == ns.length) && decide ns.Nodup && (is.zip ns).all fun q => Γ[q.1]? == some (q.2,.local) && lk sc q.2 == some .local
noncomputable def noComp (x:Expr):Bool:=x.ctorIdx != 8 && x.ctorIdx != 9 && x.ctorIdx != 10
noncomputable def noSD (x:Expr):Bool:=x.ctorIdx != 9 && x.ctorIdx != 10
noncomputable def notTup (x:Expr):Bool:=x.ctorIdx != 25 && noComp x
noncomputable def isTup (x:Expr):Bool:=x.ctorIdx == 25
section
variable {x:Stmt} {motive:Stmt -> Prop}
noncomputable def uRet (f:Option Expr -> Bool) (x:Stmt):Bool:=if h:x.ctorIdx = 3 then Stmt.Return.elim (motive_2:=fun _ => Bool) x h fun v _ => f v else false
theorem uRet_elim {f:Option Expr -> Bool} (h:uRet f x = true) (k:∀ v p,f v = true -> motive (.Return v p)):motive x:=
 if c:x.ctorIdx = 3 then Stmt.Return.elim (motive_2:=fun x => uRet f x = true -> motive x) x c k h else absurd ((dif_neg c).symm.trans h) Bool.false_ne_true
noncomputable def uAsg (f:List Expr -> Expr -> Bool) (x:Stmt):Bool:=if h:x.ctorIdx = 5 then Stmt.Assign.elim (motive_2:=fun _ => Bool) x h fun ts v _ => f ts v else false
theorem uAsg_elim {f:List Expr -> Expr -> Bool} (h:uAsg f x = true) (k:∀ ts v p,f ts v = true -> motive (.Assign ts v p)):motive x:=
 if c:x.ctorIdx = 5 then Stmt.Assign.elim (motive_2:=fun x => uAsg f x = true -> motive x) x c k h else absurd ((dif_neg c).symm.trans h) Bool.false_ne_true
noncomputable def uAug (f:Expr -> Operator -> Expr -> Bool) (x:Stmt):Bool:=if h:x.ctorIdx = 7 then Stmt.AugAssign.elim (motive_2:=fun _ => Bool) x h fun t o v _ => f t o v else false
theorem uAug_elim {f:Expr -> Operator -> Expr -> Bool} (h:uAug f x = true) (k:∀ t o v p,f t o v = true -> motive (.AugAssign t o v p)):motive x:=
 if c:x.ctorIdx = 7 then Stmt.AugAssign.elim (motive_2:=fun x => uAug f x = true -> motive x) x c k h else absurd ((dif_neg c).symm.trans h) Bool.false_ne_true
noncomputable def uFor (f:Expr -> Expr -> List Stmt -> List Stmt -> Bool) (x:Stmt):Bool:=if h:x.ctorIdx = 9 then Stmt.For.elim (motive_2:=fun _ => Bool) x h fun t i b e _ => f t i b e else false
theorem uFor_elim {f:Expr -> Expr -> List Stmt -> List Stmt -> Bool} (h:uFor f x = true) (k:∀ t i b e p,f t i b e = true -> motive (.For t i b e p)):motive x:=
 if c:x.ctorIdx = 9 then Stmt.For.elim (motive_2:=fun x => uFor f x = true -> motive x) x c k h else absurd ((dif_neg c).symm.trans h) Bool.false_ne_true
noncomputable def uWhl (f:Expr -> List Stmt -> List Stmt -> Bool) (x:Stmt):Bool:=if h:x.ctorIdx = 11 then Stmt.While.elim (motive_2:=fun _ => Bool) x h fun t b e _ => f t b e else false
theorem uWhl_elim {f:Expr -> List Stmt -> List Stmt -> Bool} (h:uWhl f x = true) (k:∀ t b e p,f t b e = true -> motive (.While t b e p)):motive x:=
 if c:x.ctorIdx = 11 then Stmt.While.elim (motive_2:=fun x => uWhl f x = true -> motive x) x c k h else absurd ((dif_neg c).symm.trans h) Bool.false_ne_true
noncomputable def uIf (f:Expr -> List Stmt -> List Stmt -> Bool) (x:Stmt):Bool:=if h:x.ctorIdx = 12 then Stmt.If.elim (motive_2:=fun _ => Bool) x h fun t b e _ => f t b e else false
theorem uIf_elim {f:Expr -> List Stmt -> List Stmt -> Bool} (h:uIf f x = true) (k:∀ t b e p,f t b e = true -> motive (.If t b e p)):motive x:=
 if c:x.ctorIdx = 12 then Stmt.If.elim (motive_2:=fun x => uIf f x = true -> motive x) x c k h else absurd ((dif_neg c).symm.trans h) Bool.false_ne_true
noncomputable def uAst (f:Expr -> Bool) (x:Stmt):Bool:=if h:x.ctorIdx = 19 then Stmt.Assert.elim (motive_2:=fun _ => Bool) x h fun t _ _ => f t else false
theorem uAst_elim {f:Expr -> Bool} (h:uAst f x = true) (k:∀ t m p,f t = true -> motive (.Assert t m p)):motive x:=
 if c:x.ctorIdx = 19 then Stmt.Assert.elim (motive_2:=fun x => uAst f x = true -> motive x) x c k h else absurd ((dif_neg c).symm.trans h) Bool.false_ne_true
noncomputable def uExp (f:PySem.Expr -> Bool) (x:Stmt):Bool:=if h:x.ctorIdx = 24 then Stmt.Expr.elim (motive_2:=fun _ => Bool) x h fun v _ => f v else false
theorem uExp_elim {f:PySem.Expr -> Bool} (h:uExp f x = true) (k:∀ v p,f v = true -> motive (.Expr v p)):motive x:=
 if c:x.ctorIdx = 24 then Stmt.Expr.elim (motive_2:=fun x => uExp f x = true -> motive x) x c k h else absurd ((dif_neg c).symm.trans h) Bool.false_ne_true
end
noncomputable def vNp (f:Str -> Pos -> Bool) (x:Expr):Bool:=if h:x.ctorIdx = 23 then Expr.Name.elim (motive_1:=fun _ => Bool) x h f else false
theorem vNp_elim {motive:Expr -> Prop} {f:Str -> Pos -> Bool} {x:Expr} (h:vNp f x = true) (k:∀ n p,f n p = true -> motive (.Name n p)):motive x:=
 if c:x.ctorIdx = 23 then Expr.Name.elim (motive_1:=fun x => vNp f x = true -> motive x) x c k h else absurd ((dif_neg c).symm.trans h) Bool.false_ne_true
section
variable {xs:List Stmt} {motive:List Stmt -> Prop}
noncomputable def hdS (f:Stmt -> List Stmt -> Bool):List Stmt -> Bool
 | [] => false
 | s :: q => f s q
theorem hdS_elim {f:Stmt -> List Stmt -> Bool} (h:hdS f xs = true) (k:∀ s q,f s q = true -> motive (s :: q)):motive xs:=by
 cases xs with
 | nil => exact (Bool.false_ne_true h).elim
 | cons s q => exact k s q h
noncomputable def bUnp (f:Expr -> Expr -> List Stmt -> Bool):List Stmt -> Bool:=hdS fun s q => uAsg (fun ts v => l1 (fun t => f t v q) ts) s
theorem bUnp_elim {f:Expr -> Expr -> List Stmt -> Bool} (h:bUnp f xs = true) (k:∀ t v p q,f t v q = true -> motive (.Assign [t] v p :: q)):motive xs:=
 hdS_elim h fun s q h => uAsg_elim (motive:=fun s => motive (s :: q)) h fun ts v p h => l1_elim (motive:=fun ts => motive (.Assign ts v p :: q)) h fun t h => k t v p q h
noncomputable def bAsgN (f:Str -> Pos -> Expr -> List Stmt -> Bool):List Stmt -> Bool:=bUnp fun t v q => vNp (fun x px => f x px v q) t
theorem bAsgN_elim {f:Str -> Pos -> Expr -> List Stmt -> Bool} (h:bAsgN f xs = true) (k:∀ x px v p q,f x px v q = true -> motive (.Assign [.Name x px] v p :: q)):motive xs:=
 bUnp_elim h fun t v p q h => vNp_elim (motive:=fun t => motive (.Assign [t] v p :: q)) h fun x px h => k x px v p q h
noncomputable def bSrch (f:Str -> Str -> Str -> Pos -> Expr -> Pos -> List Stmt -> Bool):List Stmt -> Bool:=bAsgN fun x _ v q => vCallP1 (fun n m ap y cp => f x n m ap y cp q) v
theorem bSrch_elim {f:Str -> Str -> Str -> Pos -> Expr -> Pos -> List Stmt -> Bool} (h:bSrch f xs = true) (k:∀ x px n p1 m ap y cp p q,f x n m ap y cp q = true -> motive (.Assign [.Name x px] (.Call (.Attribute (.Name n p1) m ap) [y] [] cp) p :: q)):motive xs:=
 bAsgN_elim h fun x px v p q h => vCallP1_elim (motive:=fun v => motive (.Assign [.Name x px] v p :: q)) h fun n p1 m ap y cp h => k x px n p1 m ap y cp p q h
noncomputable def bApp (f:Str -> Str -> Pos -> Expr -> Pos -> List Stmt -> Bool):List Stmt -> Bool:=hdS fun s q => uExp (vCallP1 fun x m ap y cp => f x m ap y cp q) s
theorem bApp_elim {f:Str -> Str -> Pos -> Expr -> Pos -> List Stmt -> Bool} (h:bApp f xs = true) (k:∀ x px m ap y cp p q,f x m ap y cp q = true -> motive (.Expr (.Call (.Attribute (.Name x px) m ap) [y] [] cp) p :: q)):motive xs:=
 hdS_elim h fun s q h => uExp_elim (motive:=fun s => motive (s :: q)) h fun v p h => vCallP1_elim (motive:=fun v => motive (.Expr v p :: q)) h fun x px m ap y cp h => k x px m ap y cp p q h
noncomputable def bAug (f:Str -> Operator -> Expr -> List Stmt -> Bool):List Stmt -> Bool:=hdS fun s q => uAug (fun t o v => vNm (fun x => f x o v q) t) s
theorem bAug_elim {f:Str -> Operator -> Expr -> List Stmt -> Bool} (h:bAug f xs = true) (k:∀ x px o v p q,f x o v q = true -> motive (.AugAssign (.Name x px) o v p :: q)):motive xs:=
 hdS_elim h fun s q h => uAug_elim (motive:=fun s => motive (s :: q)) h fun t o v p h => vNm_elim (motive:=fun t => motive (.AugAssign t o v p :: q)) h fun x px h => k x px o v p q h
noncomputable def bIf (f:Expr -> List Stmt -> List Stmt -> List Stmt -> Bool):List Stmt -> Bool:=hdS fun s q => uIf (fun t y z => f t y z q) s
theorem bIf_elim {f:Expr -> List Stmt -> List Stmt -> List Stmt -> Bool} (h:bIf f xs = true) (k:∀ t y z p q,f t y z q = true -> motive (.If t y z p :: q)):motive xs:=
 hdS_elim h fun s q h => uIf_elim (motive:=fun s => motive (s :: q)) h fun t y z p h => k t y z p q h
noncomputable def bWhl (f:Expr -> List Stmt -> List Stmt -> Bool):List Stmt -> Bool:=hdS fun s q => uWhl (fun t y z => z.isEmpty && f t y q) s
theorem bWhl_elim {f:Expr -> List Stmt -> List Stmt -> Bool} (h:bWhl f xs = true) (k:∀ t y p q,f t y q = true -> motive (.While t y [] p :: q)):motive xs:=
 hdS_elim h fun s q h => uWhl_elim (motive:=fun s => motive (s :: q)) h fun t y z p h => nil_elim (motive:=fun z => motive (.While t y z p :: q)) h fun h => k t y p q h
noncomputable def bFor (f:Expr -> Expr -> List Stmt -> List Stmt -> Bool):List Stmt -> Bool:=hdS fun s q => uFor (fun t i y z => z.isEmpty && f t i y q) s
theorem bFor_elim {f:Expr -> Expr -> List Stmt -> List Stmt -> Bool} (h:bFor f xs = true) (k:∀ t i y p q,f t i y q = true -> motive (.For t i y [] p :: q)):motive xs:=
 hdS_elim h fun s q h => uFor_elim (motive:=fun s => motive (s :: q)) h fun t i y z p h => nil_elim (motive:=fun z => motive (.For t i y z p :: q)) h fun h => k t i y p q h
noncomputable def someX (f:Expr -> Bool):Option Expr -> Bool
 | none => false
 | some v => f v
noncomputable def bRet (f:Expr -> Bool):List Stmt -> Bool:=hdS fun s _ => uRet (someX f) s
theorem bRet_elim {f:Expr -> Bool} (h:bRet f xs = true) (k:∀ v p q,f v = true -> motive (.Return (some v) p :: q)):motive xs:=
 hdS_elim h fun s q h => uRet_elim (motive:=fun s => motive (s :: q)) h fun o p h => by
  cases o with
  | none => exact (Bool.false_ne_true h).elim
  | some v => exact k v p q h
noncomputable def bAst (f:Expr -> List Stmt -> Bool):List Stmt -> Bool:=hdS fun s q => uAst (fun t => f t q) s
theorem bAst_elim {f:Expr -> List Stmt -> Bool} (h:bAst f xs = true) (k:∀ t m p q,f t q = true -> motive (.Assert t m p :: q)):motive xs:=
 hdS_elim h fun s q h => uAst_elim (motive:=fun s => motive (s :: q)) h fun t m p h => k t m p q h
noncomputable def bAsN (f:Str -> Str -> Str -> List Stmt -> Bool):List Stmt -> Bool:=bAst fun t q => vNot (vCallN2 fun g y z => vNm (fun x => vNm (fun u => f g x u q) z) y) t
theorem bAsN_elim {f:Str -> Str -> Str -> List Stmt -> Bool} (h:bAsN f xs = true) (k:∀ g pg x px u pu cp p1 m p q,f g x u q = true -> motive (.Assert (.UnaryOp .Not (.Call (.Name g pg) [.Name x px,.Name u pu] [] cp) p1) m p :: q)):motive xs:=
 bAst_elim h fun t m p q h => vNot_elim (motive:=fun t => motive (.Assert t m p :: q)) h fun y p1 h => vCallN2_elim (motive:=fun y => motive (.Assert (.UnaryOp .Not y p1) m p :: q)) h fun g pg y z cp h => vNm_elim (motive:=fun y => motive (.Assert (.UnaryOp .Not (.Call (.Name g pg) [y,z] [] cp) p1) m p :: q)) h fun x px h => vNm_elim (motive:=fun z => motive (.Assert (.UnaryOp .Not (.Call (.Name g pg) [.Name x px,z] [] cp) p1) m p :: q)) h fun u pu h => k g pg x px u pu cp p1 m p q h
end
noncomputable def freshE (y:Expr):Bool:=y.ctorIdx == 8 || vLst (fun zs => zs.isEmpty) y
noncomputable def vNil:Expr -> Bool:=vLst fun zs => zs.isEmpty
theorem vNil_elim {x:Expr} {motive:Expr -> Prop} (h:vNil x = true) (k:∀ p,motive (.List [] p)):motive x:=
 vLst_elim h fun ys p h => nil_elim (b:=true) (motive:=fun ys => motive (.List ys p)) (by rw [h]; rfl) fun _ => k p
section
variable {xs:List Stmt} {motive:List Stmt -> Prop}
noncomputable def bOwn1 (f:Str -> List Stmt -> Bool):List Stmt -> Bool:=bAsgN fun x _ v q => vLst (fun ys => l1 (fun y => vNil y && f x q) ys) v
theorem bOwn1_elim {f:Str -> List Stmt -> Bool} (h:bOwn1 f xs = true) (k:∀ x px p1 p2 p q,f x q = true -> motive (.Assign [.Name x px] (.List [.List [] p1] p2) p :: q)):motive xs:=
 bAsgN_elim h fun x px v p q h => vLst_elim (motive:=fun v => motive (.Assign [.Name x px] v p :: q)) h fun ys p2 h => l1_elim (motive:=fun ys => motive (.Assign [.Name x px] (.List ys p2) p :: q)) h fun y h => ba2 h fun h1 h2 => vNil_elim (motive:=fun y => motive (.Assign [.Name x px] (.List [y] p2) p :: q)) h1 fun p1 => k x px p1 p2 p q h2
noncomputable def bAppl (f:Str -> Expr -> Str -> Pos -> Expr -> Pos -> List Stmt -> Bool):List Stmt -> Bool:=hdS fun s q => uExp (vCallA fun o m ap ys cp => l1 (fun y => vSub (fun c i => vNm (fun x => f x i m ap y cp q) c) o) ys) s
theorem bAppl_elim {f:Str -> Expr -> Str -> Pos -> Expr -> Pos -> List Stmt -> Bool} (h:bAppl f xs = true) (k:∀ x px i p1 m ap y cp p q,f x i m ap y cp q = true -> motive (.Expr (.Call (.Attribute (.Subscript (.Name x px) i p1) m ap) [y] [] cp) p :: q)):motive xs:=
 hdS_elim h fun s q h => uExp_elim (motive:=fun s => motive (s :: q)) h fun v p h => vCallA_elim (motive:=fun v => motive (.Expr v p :: q)) h fun o m ap ys cp h => l1_elim (motive:=fun ys => motive (.Expr (.Call (.Attribute o m ap) ys [] cp) p :: q)) h fun y h => vSub_elim (motive:=fun o => motive (.Expr (.Call (.Attribute o m ap) [y] [] cp) p :: q)) h fun c i p1 h => vNm_elim (motive:=fun c => motive (.Expr (.Call (.Attribute (.Subscript c i p1) m ap) [y] [] cp) p :: q)) h fun x px h => k x px i p1 m ap y cp p q h
end
noncomputable def v0 (j:Int) (f:Expr -> Bool):Expr -> Bool:=vSub fun a b => vInt (fun i => i == j && f a) b
theorem v0_elim {j:Int} {f:Expr -> Bool} {x:Expr} {motive:Expr -> Prop} (h:v0 j f x = true) (k:∀ a i p q,f a = true -> motive (.Subscript a (.Constant (.int j) i p) q)):motive x:=
 vSub_elim h fun a b q h => vInt_elim (motive:=fun b => motive (.Subscript a b q)) h fun j' i p h => ba2 h fun h1 h2 => eq_of_beq h1 ▸ k a i p q h2
noncomputable def v000 (x:Str) (j:Int):Expr -> Bool:=v0 j (v0 0 (v0 0 (vNm (· == x))))
theorem v000_elim {x:Str} {j:Int} {y:Expr} {motive:Expr -> Prop} (h:v000 x j y = true) (k:∀ px i1 p1 q1 i2 p2 q2 i3 p3 q3,motive (.Subscript (.Subscript (.Subscript (.Name x px) (.Constant (.int 0) i1 p1) q1) (.Constant (.int 0) i2 p2) q2) (.Constant (.int j) i3 p3) q3)):motive y:=
 v0_elim h fun a i3 p3 q3 h => v0_elim (motive:=fun a => motive (.Subscript a (.Constant (.int j) i3 p3) q3)) h fun a i2 p2 q2 h => v0_elim (motive:=fun a => motive (.Subscript (.Subscript a (.Constant (.int 0) i2 p2) q2) (.Constant (.int j) i3 p3) q3)) h fun a i1 p1 q1 h => vNm_elim (motive:=fun a => motive (.Subscript (.Subscript (.Subscript a (.Constant (.int 0) i1 p1) q1) (.Constant (.int 0) i2 p2) q2) (.Constant (.int j) i3 p3) q3)) h fun n px h => eq_of_beq h ▸ k px i1 p1 q1 i2 p2 q2 i3 p3 q3
noncomputable def bSet00 (f:Str -> Str -> List Stmt -> Bool):List Stmt -> Bool:=bUnp fun t v q => v0 0 (v0 0 (vNm fun x => vTup (fun es => l2 (fun e1 e2 => vBinA (fun s r => v000 x 0 r && (v000 x 1 e2 && f x s q)) e1) es) v)) t
theorem bSet00_elim {f:Str -> Str -> List Stmt -> Bool} {xs:List Stmt} {motive:List Stmt -> Prop} (h:bSet00 f xs = true) (k:∀ x px i1 p1 q1 i2 p2 q2 s i p4 r p5 e2 kk p3 p q,v000 x 0 r = true -> v000 x 1 e2 = true -> f x s q = true -> motive (.Assign [.Subscript (.Subscript (.Name x px) (.Constant (.int 0) i1 p1) q1) (.Constant (.int 0) i2 p2) q2] (.Tuple [.BinOp (.Constant (.str s) i p4) .Add r p5,e2] kk p3) p :: q)):motive xs:=
 bUnp_elim h fun t v p q h => by
  refine v0_elim (x:=t) (motive:=fun t => motive (.Assign [t] v p :: q)) h fun a i2 p2 q2 h => ?_
  refine v0_elim (x:=a) (motive:=fun a => motive (.Assign [.Subscript a (.Constant (.int 0) i2 p2) q2] v p :: q)) h fun a i1 p1 q1 h => ?_
  refine vNm_elim (x:=a) (motive:=fun a => motive (.Assign [.Subscript (.Subscript a (.Constant (.int 0) i1 p1) q1) (.Constant (.int 0) i2 p2) q2] v p :: q)) h fun x px h => ?_
  refine vTup_elim (x:=v) (motive:=fun v => motive (.Assign [.Subscript (.Subscript (.Name x px) (.Constant (.int 0) i1 p1) q1) (.Constant (.int 0) i2 p2) q2] v p :: q)) h fun es kk p3 h => ?_
  refine l2_elim (l:=es) (motive:=fun es => motive (.Assign [.Subscript (.Subscript (.Name x px) (.Constant (.int 0) i1 p1) q1) (.Constant (.int 0) i2 p2) q2] (.Tuple es kk p3) p :: q)) h fun e1 e2 h => ?_
  refine vBinA_elim (x:=e1) (motive:=fun e1 => motive (.Assign [.Subscript (.Subscript (.Name x px) (.Constant (.int 0) i1 p1) q1) (.Constant (.int 0) i2 p2) q2] (.Tuple [e1,e2] kk p3) p :: q)) h fun s i p4 r p5 h => ?_
  refine ba2 h fun h1 h => ba2 h fun h2 h3 => ?_
  exact k x px i1 p1 q1 i2 p2 q2 s i p4 r p5 e2 kk p3 p q h1 h2 h3
noncomputable def vRsp (f:Expr -> Bool):Expr -> Bool:=vCallA fun o m ap ys cp => m == ("split":Str) && (ap.endLine == cp.line && (l1 (vStr (· == mkS [44])) ys && vCallA (fun o m ap ys cp => m == ("replace":Str) && (ap.endLine == cp.line && (l2 (fun y z => vStr (· == mkS [59]) y && vStr (· == mkS [32]) z) ys && f o))) o))
noncomputable def bumpX:Expr -> Bool:=vAnd fun ys => match ys with
 | [] => false
 | y :: _ => vCmp1 (fun l o r => match o with | .Eq => vNm (fun _ => true) l && vInt (fun _ => true) r | _ => false) y
noncomputable def tgtOk (Γ:List (Str × NameKind)) (sc:Scope) (is:List Nat):Option (List Str) -> Bool
 | none => false
 | some ns => isTgt Γ sc is ns
theorem tgtOk_inv {Γ:List (Str × NameKind)} {sc:Scope} {is:List Nat} {o:Option (List Str)} (h:tgtOk Γ sc is o = true):∃ ns,o = some ns /\ isTgt Γ sc is ns = true:=by
 cases o with
 | none => exact (Bool.false_ne_true h).elim
 | some ns => exact ⟨ns,rfl,h⟩
noncomputable def isB (G:GC) (lam:Option Pos) (Γ:List (Str × NameKind)) (sc:Scope):Bk -> List Stmt -> Bool
 | .nil,xs => xs.isEmpty
 | .frz _ r,xs => isB G lam Γ sc r xs
 | .asg i e r,xs => bAsgN (fun x _ v q => nameOk Γ sc i x && isX G lam e false Γ sc v && noSD v && isB G lam Γ sc r q) xs
 | .own i e r,xs => bAsgN (fun x px v q => nameOk Γ sc i x && freshL sc v x px && isX G lam e false Γ sc v && isB G lam Γ sc r q) xs
 | .own1 i r,xs => bOwn1 (fun x q => nameOk Γ sc i x && isB G lam Γ sc r q) xs
 | .app i e r,xs => bApp (fun x m ap y cp q => nameOk Γ sc i x && m == ("append":Str) && (ap.endLine == cp.line) && isX G lam e false Γ sc y && isB G lam Γ sc r q) xs
 | .appo i e r,xs => bApp (fun x m ap y cp q => nameOk Γ sc i x && m == ("append":Str) && (ap.endLine == cp.line) && freshE y && isX G lam e false Γ sc y && isB G lam Γ sc r q) xs
 | .appl i e r,xs => bAppl (fun x j m ap y cp q => nameOk Γ sc i x && m == ("append":Str) && (ap.endLine == cp.line) && !isSl j && isX G lam (.neg (.int 1)) false Γ sc j && isX G lam e false Γ sc y && isB G lam Γ sc r q) xs
 | .set00 i s r,xs => bSet00 (fun x s' q => nameOk Γ sc i x && s == s' && PyData.strOk s && decide ((tl s).length <= big) && isB G lam Γ sc r q) xs
 | .aug i op e r,xs => bAug (fun x op' v q => nameOk Γ sc i x && op == op' && isX G lam e false Γ sc v && isB G lam Γ sc r q) xs
 | .unp is e r,xs => bUnp (fun t v q => isTup t && tgtOk Γ sc is (tgtNames t) && notTup v && isX G lam e false Γ sc v && isB G lam Γ sc r q) xs
 | .srch i p e r,xs => bSrch (fun x n m ap y cp q => nameOk Γ sc i x && n == p.name && gname sc n && m == ("search":Str) && (ap.endLine == cp.line) && isX G lam e false Γ sc y && (p == .tok || p == .quo || p == .val) && isB G lam Γ sc r q) xs
 | .ite c a b r,xs => bIf (fun t ys zs q => isX G lam c true Γ sc t && isB G lam Γ sc a ys && isB G lam Γ sc b zs && isB G lam Γ sc r q) xs
 | .iteR c i f es a b r,xs => bIf (fun t ys zs q => isX G lam c true Γ sc t && bumpX t && bAsgN (fun x _ v q' => nameOk Γ sc i x && vRsp (isX G lam (.call f es) false Γ sc) v && isB G lam Γ sc a q') ys && isB G lam Γ sc b zs && isB G lam Γ sc r q) xs
 | .whl c b r,xs => bWhl (fun t ys q => isX G lam c true Γ sc t && isB G lam Γ sc b ys && isB G lam Γ sc r q) xs
 | .for_ is it b r,xs => bFor (fun t iter ys q => tgtOk Γ sc is (tgtNames t) && isI G lam it Γ sc iter && isB G lam Γ sc b ys && isB G lam Γ sc r q) xs
 | .ret e,xs => bRet (fun v => isX G lam e false Γ sc v) xs
 | .asrt c r,xs => bAst (fun t q => isX G lam c true Γ sc t && isB G lam Γ sc r q) xs
 | .asrtN i r,xs => bAsN (fun f x t q => f == ("isinstance":Str) && gname sc f && nameOk Γ sc i x && t == ("str":Str) && gname sc t && isB G lam Γ sc r q) xs
theorem Ns.uniq {h:Heap} {a:Addr} {m m':Str -> Option Value} (x:h.Ns a m) (y:h.Ns a m') (n:Str):m n = m' n:=by
 refine xEEEAAA (x) fun o es ep ho hd hk hm => ?_
 refine xEEEAAA (y) fun o' es' ep' ho' hd' hk' hm' => ?_
 rw [ho] at ho'; cases ho'
 rw [hd] at hd'; cases hd'
 rw [<- hm n,<- hm' n]
noncomputable def Wr (C:Cx) (env:Env) (a:Addr):Prop:=a ∈ C.T \/ a = env.locals \/ ∃ x,env.cells.lookup x = some a
structure Fr (C:Cx) (env:Env) (O O':Nat -> List Addr) (h h':Heap):Prop where
 keep:∀ b o,¬ Wr C env b -> (∀ i,b ∉ O i) -> h.get? b = some o -> h'.get? b = some o
 gr:∀ i a,a ∈ O' i -> (∃ j,a ∈ O j) \/ h.get? a = none \/ Wr C env a
theorem Fr.trans {C:Cx} {env:Env} {O O1 O2:Nat -> List Addr} {h h1 h2:Heap} (x:Fr C env O O1 h h1) (y:Fr C env O1 O2 h1 h2):Fr C env O O2 h h2:=by
 refine ⟨fun b o n1 n2 e => y.keep b o n1 (fun i m => ?_) (x.keep b o n1 n2 e),fun i a m => ?_⟩
 ·rcases x.gr i b m with ⟨j,q⟩ | q | q
  ·exact n2 j q
  ·rw [e] at q; cases q
  ·exact n1 q
 ·rcases y.gr i a m with ⟨j,q⟩ | q | q
  ·exact x.gr j a q
  ·by_cases hw:Wr C env a
   ·exact .inr (.inr hw)
   ·by_cases ho:∃ j,a ∈ O j
    ·exact .inl ho
    ·cases e:h.get? a with
     | none => exact .inr (.inl rfl)
     | some o =>
      have:=x.keep a o hw (fun i m => ho ⟨i,m⟩) e
      rw [this] at q; cases q
  ·exact .inr (.inr q)
theorem Fr.T {C:Cx} {env:Env} {O:Nat -> List Addr} {h h':Heap} (e:EX C.T h h'):Fr C env O O h h':=⟨fun b o n _ q => e b o (fun m => n (.inl m)) q,fun i a m => .inl ⟨i,m⟩⟩
theorem Fr.refl {C:Cx} {env:Env} {O:Nat -> List Addr} {h:Heap}:Fr C env O O h h:=Fr.T (EX.refl _)
theorem Fr.frz {C:Cx} {env:Env} {O O':Nat -> List Addr} {h:Heap} (k:∀ i a,a ∈ O' i -> ∃ j,a ∈ O j):Fr C env O O' h h:=⟨fun _ _ _ _ e => e,fun i a m => .inl (k i a m)⟩
theorem Fr.fresh {C:Cx} {env:Env} {O O':Nat -> List Addr} {h h1 h2:Heap} {L:Addr} (x:Fr C env O O' h h1) (e:EX [L] h1 h2) (n:h.get? L = none):Fr C env O O' h h2:=
 ⟨fun b o n1 n2 q => e b o (fun m => by rw [List.mem_singleton.mp m,n] at q; cases q) (x.keep b o n1 n2 q),x.gr⟩
structure Put (C:Cx) (env:Env) (B:Addr -> Prop) (h0 h h':Heap) (x:Str) (k:NameKind) (v:Value):Prop where
 loc:∃ a,Own C B a /\ EX [a] h h' /\ (∃ ob,h'.get? a = some ob) /\ h0.get? a = none /\ Wr C env a
 ld:Loads C.T env h' x k v
 oth:∀ y ky w,y ≠ x -> env.kindOf y = some ky -> Loads C.T env h y ky w -> Loads C.T env h' y ky w
 ns:∃ m,h'.Ns env.locals m
 cel:∀ x c,env.cells.lookup x = some c -> ∃ v,h'.IsCell c v
section
variable {C:Cx} {lam:Option Pos} {Γ:List (Str × NameKind)} {env:Env} {H0 B B':Addr -> Prop} {h0 h h':Heap} {σ:List Sl} {O:Nat -> List Addr} {n:Nat} {A:Around} {s:Shared} {Ex:Value -> Shared -> Prop}
theorem put_ns (f:FE C lam Γ env H0 B h0) {m m':Str -> Option Value} (hn:h.Ns env.locals m) (hn':h'.Ns env.locals m') (e:EX [env.locals] h h') (hc:∀ x c,env.cells.lookup x = some c -> ∃ v,h.IsCell c v) {x:Str} {v:Value} (hx:m' x = some v) (ho:∀ y,y ≠ x -> m' y = m y):Put C env B h0 h h' x .local v:=by
 refine ⟨⟨env.locals,f.loc,e,Ns.live hn',f.locF,.inr (.inl rfl)⟩,.inl ⟨rfl,f.loc.2.1,m',hn',hx⟩,fun y ky w hy hk l => ?_,⟨m',hn'⟩,fun y c hy => ?_⟩
 ·rcases l with ⟨rfl,n,m2,hm2,hw⟩ | ⟨rfl,c,n,hl,o,eo,q⟩
  ·exact .inl ⟨rfl,n,m',hn',by rw [ho y hy,Ns.uniq hn hm2 y]; exact hw⟩
  ·exact .inr ⟨rfl,c,n,hl,o,e c o (by simpa using (f.cel y c hl).2.2) eo,q⟩
 ·refine xEEA (hc y c hy) fun v o eo q => ?_
  exact ⟨v,o,e c o (by simpa using (f.cel y c hy).2.2) eo,q⟩
theorem put_store (f:FE C lam Γ env H0 B h0) (r:SR C Γ env B' h0 s.heap σ O) {i:Nat} {x:Str} {k:NameKind} {v:Value} {Q:Unit -> Shared -> Prop} (hi:Γ[i]? = some (x,k))
  (q:∀ h' tk,Put C env B h0 s.heap h' x k v -> Q () { s with heap:=h',toks:=tk }):wpAny (model C.prog C.w) A (storeName env x v) Q Ex s:=by
 obtain ⟨hk,hlc⟩:=f.kd i x k hi
 obtain ⟨m,hm⟩:=r.ns
 rcases hlc with rfl | rfl
 ·refine store_local f.kind hk hm fun h' tk hn' e => q h' tk (put_ns f hm hn' e r.cel (if_pos rfl) fun y hy => if_neg hy)
 ·obtain ⟨c,hc⟩:=Option.isSome_iff_exists.mp (f.cell x hk)
  obtain ⟨v0,hv0⟩:=r.cel x c hc
  refine xAA (f.cel x c hc) fun oc nc ncl => ?_
  refine wpAny_storeName_cell f.kind hk hc hv0 fun h' hv' sb => q h' s.toks ?_
  have e:EX [c] s.heap h':=same_ex sb
  refine ⟨⟨c,oc,e,let ⟨o,eo,_⟩:=hv'; ⟨o,eo⟩,nc,.inr (.inr ⟨x,hc⟩)⟩,.inr ⟨rfl,c,oc.2.1,hc,hv'⟩,fun y ky w hy hky l => ?_,⟨m,Ns.ex hm e (by simpa using ncl.symm)⟩,fun y c' hy => ?_⟩
  ·rcases l with ⟨rfl,n,m2,hm2,hw⟩ | ⟨rfl,c',n,hl,o,eo,q⟩
   ·exact .inl ⟨rfl,n,m2,Ns.ex hm2 e (by simpa using ncl.symm),hw⟩
   ·refine .inr ⟨rfl,c',n,hl,o,e c' o (fun m => hy ?_) eo,q⟩
    rw [List.mem_singleton.mp m] at hl
    exact f.inj _ _ _ hl hc
  ·by_cases hyx:c' = c
   ·subst hyx; exact ⟨_,hv'⟩
   ·refine xEEA (r.cel y c' hy) fun v o eo q => ?_
    exact ⟨v,o,e c' o (by simpa using hyx) eo,q⟩
theorem Fr.put {i:Nat} {x:Str} {k:NameKind} {v:Value} {l:List Addr} {hp:Heap} (fr:Fr C env O O hp h) (p:Put C env B h0 h h' x k v) (hl:∀ a ∈ l,hp.get? a = none):Fr C env O (upd O i l) hp h':=by
 refine xEAAAA (p.loc) fun a oa ea la na wa => ?_
 refine ⟨fun b o n1 n2 q => ea b o (fun m => n1 (by rw [List.mem_singleton.mp m]; exact wa)) (fr.keep b o n1 n2 q),fun j b m => ?_⟩
 by_cases hj:j = i
 ·subst hj; rw [upd_self] at m; exact .inr (.inl (hl b m))
 ·rw [upd_ne hj] at m; exact .inl ⟨j,m⟩
theorem Fr.chg {i:Nat} {a:Addr} {N L:List Addr} {hp:Heap} (fr:Fr C env O O hp h) (m:a ∈ O i) (e:EX [a] h h') (hL:∀ b ∈ L,b ∈ N \/ b ∈ O i) (hN:∀ b ∈ N,hp.get? b = none):Fr C env O (upd O i L) hp h':=
 ⟨fun b o n1 n2 q => e b o (fun m' => n2 i (by rw [List.mem_singleton.mp m']; exact m)) (fr.keep b o n1 n2 q),fun j b q => by
  by_cases hj:j = i
  ·subst hj; rw [upd_self] at q; exact (hL b q).elim (fun q => .inr (.inl (hN b q))) fun q => .inl ⟨j,q⟩
  ·rw [upd_ne hj] at q; exact .inl ⟨j,q⟩⟩
theorem hc_upd {i:Nat} {l:List Addr}:∀ b,HC B (upd O i l) b -> HC B O b \/ b ∈ l:=fun b m => by
 rcases m with m | ⟨j,m⟩
 ·exact .inl (.inl m)
 ·by_cases hj:j = i
  ·subst hj; rw [upd_self] at m; exact .inr m
  ·rw [upd_ne hj] at m; exact .inl (.inr ⟨j,m⟩)
theorem SR.updG (f:FE C lam Γ env H0 B h0) {N L:List Addr} (r:SR C Γ env (HideL B N) h0 h σ O) {i:Nat} {x:Str} {k:NameKind} (hi:Γ[i]? = some (x,k)) {a:Addr} (oa:Own C (HC (HideL B N) O) a) (e:EX [a] h h') (la:∃ ob,h'.get? a = some ob) (na:h0.get? a = none) (naO:∀ j,j ≠ i -> a ∉ O j)
  (hns:∃ m,h'.Ns env.locals m) (hcel:∀ x c,env.cells.lookup x = some c -> ∃ v,h'.IsCell c v) (oth:∀ y ky w,y ≠ x -> env.kindOf y = some ky -> Loads C.T env h y ky w -> Loads C.T env h' y ky w) (hL:L.Nodup) (hs:∀ b ∈ L,b ∈ N \/ b ∈ O i)
  (ho:∀ b ∈ N,b ∉ C.T /\ C.hb.get? b = none /\ h0.get? b = none /\ ¬ B b) {y:Sl} (hy:SlR C (HC B (upd O i L)) env h' x k y L):SR C Γ env B h0 h' (σ.set i y) (upd O i L):=by
 have k1:∀ b,HC B (upd O i L) b -> HC (HideL B N) O b:=fun b m => (hc_upd b m).elim (fun q => q.imp .inl id) fun q => (hs b q).elim (fun q => .inl (.inr q)) fun q => .inr ⟨i,q⟩
 refine ⟨r.ex.fresh na e,(r.gg.step1 oa e la).less k1 fun b m => .inl (f.tB b m),by rw [List.length_set]; exact r.len,hns,hcel,fun j z kz hj => ?_,fun j hj => ?_,fun j b m => ?_,fun j j' b m m' => ?_,fun j => ?_⟩
 ·by_cases hij:j = i
  ·subst hij
   rw [hi] at hj; cases hj
   rw [getSl_set (r.nlen hi),upd_self]
   exact hy
  ·rw [getSl_set_ne (Ne.symm hij),upd_ne hij]
   refine ((r.sl j z kz hj).ex e oa.one (fun b m q => naO j hij (by rw [<- List.mem_singleton.mp q]; exact m)) fun w ld => oth z kz w (fun e => ?_) (f.kd j z kz hj).1 ld).mapH fun b m => .inl (k1 b m)
   subst e
   exact hij (f.nd j i z kz k hj hi)
 ·by_cases hij:j = i
  ·subst hij
   exact absurd (List.getElem?_eq_some_iff.mp hi).1 (Nat.not_lt.mpr hj)
  ·rw [upd_ne hij]; exact r.out j hj
 ·have old:∀ j,b ∈ O j -> b ∉ C.T /\ C.hb.get? b = none /\ h0.get? b = none /\ ¬ B b:=fun j m => xAAA (r.own j b m) fun h1 h2 h3 h4 => ⟨h1,h2,h3,fun q => h4 (.inl q)⟩
  by_cases hij:j = i
  ·subst hij; rw [upd_self] at m; exact (hs b m).elim (ho b) (old j)
  ·rw [upd_ne hij] at m; exact old j m
 ·have one:∀ j,j ≠ i -> b ∈ L -> b ∉ O j:=fun j hj m q => (hs b m).elim (fun m => (r.own j b q).2.2.2 (.inr m)) fun m => hj (r.dis j i b q m)
  by_cases hij:j = i
  ·subst hij; rw [upd_self] at m
   by_cases hij':j' = j
   ·exact hij'.symm
   ·rw [upd_ne hij'] at m'; exact (one j' hij' m m').elim
  ·rw [upd_ne hij] at m
   by_cases hij':j' = i
   ·subst hij'; rw [upd_self] at m'; exact (one j hij m' m).elim
   ·rw [upd_ne hij'] at m'; exact r.dis j j' b m m'
 ·by_cases hij:j = i
  ·subst hij; rw [upd_self]; exact hL
  ·rw [upd_ne hij]; exact r.ndp j
theorem SR.put (f:FE C lam Γ env H0 B h0) {l:List Addr} (r:SR C Γ env (HideL B l) h0 h σ O) {i:Nat} {x:Str} {k:NameKind} {v:Value} (hi:Γ[i]? = some (x,k)) (p:Put C env B h0 h h' x k v) {y:Sl}
  (hl:l.Nodup) (ho:∀ a ∈ l,a ∉ C.T /\ C.hb.get? a = none /\ h0.get? a = none /\ ¬ B a) (hy:SlR C (HC B (upd O i l)) env h' x k y l):SR C Γ env B h0 h' (σ.set i y) (upd O i l):=by
 refine xEAAAA (p.loc) fun a oa ea la na _ => ?_
 exact r.updG f hi (oa.more fun b m => .inl (.inl m)) ea la na (fun j _ q => (r.own j a q).2.2.2 (.inl oa.1)) p.ns p.cel p.oth hl (fun b m => .inl m) ho hy
theorem SR.nohide (f:FE C lam Γ env H0 B h0) (r:SR C Γ env B h0 h σ O):SR C Γ env (HideL B []) h0 h σ O:=by
 have k:∀ a,HideL B [] a -> B a:=fun a m => m.elim id fun q => by cases q
 have k':∀ a,HC (HideL B []) O a -> HC B O a:=fun a m => m.imp (k a) id
 refine ⟨r.ex,r.gg.less k' fun a m => .inl (.inl (f.tB a m)),r.len,r.ns,r.cel,fun i x kk hi => (r.sl i x kk hi).mapH fun a m => .inl (k' a m),r.out,fun i a m => ?_,r.dis,r.ndp⟩
 refine xAAA (r.own i a m) fun h1 h2 h3 h4 => ?_
 exact ⟨h1,h2,h3,fun q => h4 (k a q)⟩
theorem SR.putRV (f:FE C lam Γ env H0 B h0) (r:SR C Γ env B h0 h σ O) {i:Nat} {x:Str} {k:NameKind} {v:Value} (hi:Γ[i]? = some (x,k)) (p:Put C env B h0 h h' x k v) {rv:RV} (hv:RVok (HC B O) h v rv) :
  SR C Γ env B h0 h' (σ.set i (.rv rv)) (upd O i []):=by
 refine xEAAAA (p.loc) fun a oa ea la na _ => ?_
 refine (r.nohide f).put f hi p List.nodup_nil no_mem ⟨rfl,.inr ⟨v,p.ld,?_⟩⟩
 refine (hv.ex ea (fun b m => by rw [List.mem_singleton.mp m]; exact .inl oa.1)).less fun b m => (hc_upd b m).elim id fun q => by cases q
theorem SR.putOwn (f:FE C lam Γ env H0 B h0) {a:Addr} {O':List Addr} (r:SR C Γ env (HideL B (a :: O')) h0 h σ O) {i:Nat} {x:Str} {k:NameKind} (hi:Γ[i]? = some (x,k)) (p:Put C env B h0 h h' x k (.ref a))
  (hl:(a :: O').Nodup) (ho:∀ b ∈ a :: O',b ∉ C.T /\ C.hb.get? b = none /\ h0.get? b = none /\ ¬ B b) {vs:Array Value} {items:List Itm} (la:h.PlainList a vs) (is:ItmsR (HC (HideL B (a :: O')) O) h vs.toList items O') (hb:items.length <= big) :
  SR C Γ env B h0 h' (σ.set i (.own items)) (upd O i (a :: O')):=by
 refine xEAAAA (p.loc) fun c oc ec lc nc _ => ?_
 have hne:∀ b ∈ a :: O',b ∉ [c]:=fun b m q => (ho b m).2.2.2 (by rw [List.mem_singleton.mp q]; exact oc.1)
 refine r.put f hi p hl ho ⟨a,vs,O',p.ld,PList.ex la ec (hne a List.mem_cons_self),?_,hb,rfl⟩
 refine (is.ex ec (fun b m => by rw [List.mem_singleton.mp m]; exact .inl (.inl oc.1)) fun b m => hne b (List.mem_cons_of_mem _ m)).mapH fun b m => .inl ?_
 exact (hc_upd b m).elim (fun q => q.imp .inl id) fun q => .inl (.inr q)
theorem SR.chg (f:FE C lam Γ env H0 B h0) {N L:List Addr} (r:SR C Γ env (HideL B N) h0 h σ O) {i:Nat} {x:Str} {k:NameKind} (hi:Γ[i]? = some (x,k)) {a:Addr} (m:a ∈ O i) (e:EX [a] h h') (la:∃ ob,h'.get? a = some ob) (hL:L.Nodup) (hs:∀ b ∈ L,b ∈ N \/ b ∈ O i)
  (ho:∀ b ∈ N,b ∉ C.T /\ C.hb.get? b = none /\ h0.get? b = none /\ ¬ B b) {y:Sl} (hy:SlR C (HC B (upd O i L)) env h' x k y L):SR C Γ env B h0 h' (σ.set i y) (upd O i L):=by
 refine xAAA (r.own i a m) fun h1 h2 h3 h4 => ?_
 have nB:¬ B a:=fun q => h4 (.inl q)
 exact r.updG f hi ⟨.inr ⟨i,m⟩,h1,h2⟩ e la h3 (fun j hj q => hj (r.dis j i a q m)) (r.ns' f nB e) (r.cel' f nB e) (fun y ky w _ _ => Loads.keep f nB e) hL hs ho hy
theorem SR.frz (f:FE C lam Γ env H0 B h0) (r:SR C Γ env B h0 h σ O) (i:Nat):∃ O',SR C Γ env B h0 h (σ.set i (frzSl (getSl σ i))) O' /\ ∀ j a,a ∈ O' j -> ∃ j,a ∈ O j:=by
 cases hs:getSl σ i with
 | rv q =>
  refine ⟨O,?_⟩
  have:σ.set i (frzSl (.rv q)) = σ:=by
   by_cases hi:i < σ.length
   ·apply List.ext_getElem? ; intro j
    by_cases hj:i = j
    ·subst hj
     rw [List.getElem?_set_self hi]
     unfold getSl at hs
     rw [List.getElem?_eq_getElem hi] at hs ⊢
     have hs':σ[i] = .rv q:=hs
     rw [hs']; rfl
    ·rw [List.getElem?_set_ne hj]
   ·rw [List.set_eq_of_length_le (Nat.le_of_not_lt hi)]
  rw [this]; exact ⟨r,fun j a m => ⟨j,m⟩⟩
 | own l =>
  have hi:i < σ.length:=by
   unfold getSl at hs
   cases e:σ[i]? with
   | none => rw [e] at hs; cases hs
   | some y => exact (List.getElem?_eq_some_iff.mp e).1
  have hi':i < Γ.length:=r.len ▸ hi
  have hG:Γ[i]? = some (Γ[i].1,Γ[i].2):=by rw [List.getElem?_eq_getElem hi']
  have:=r.sl i _ _ hG
  rw [hs] at this
  refine xEEEAAAA (this) fun a vs O' ld la is hb hO => ?_
  have ma:a ∈ O i:=by rw [hO]; exact List.mem_cons_self
  have nO:∀ b ∈ O i,¬ HC B (upd O i []) b:=fun b m q => by
   rcases q with q | ⟨j,q⟩
   ·exact (r.own i b m).2.2.2 q
   ·by_cases hj:j = i
    ·subst hj; rw [upd_self] at q; cases q
    ·rw [upd_ne hj] at q; exact hj (r.dis j i b q m)
  refine ⟨upd O i [],(r.nohide f).chg f hG ma (EX.refl _) (PList.live la) .nil no_mem no_mem ⟨rfl,.inr ⟨.ref a,ld,?_⟩⟩,fun j b m => ?_⟩
  ·exact Rd.ofList (by rw [List.length_map]; exact hb) (nO a ma) la.isList (is.rds (fun b m => (hc_upd b m).elim id fun q => by cases q) fun b m => nO b (by rw [hO]; exact List.mem_cons_of_mem _ m))
  ·by_cases hij:j = i
   ·subst hij; rw [upd_self] at m; cases m
   ·rw [upd_ne hij] at m; exact ⟨j,m⟩
end
structure Kt (C:Cx) (Γ:List (Str × NameKind)) (env:Env) (H0 B:Addr -> Prop) (h0:Heap) (s:Shared) (O:Nat -> List Addr) (fl:Option PyData) (σ:List Sl) (Q:Flow -> Shared -> Prop):Prop where
 next:fl = none -> ∀ h' tk O',SR C Γ env B h0 h' σ O' -> Fr C env O O' s.heap h' -> Q .next { s with heap:=h',toks:=tk }
 ret:∀ d,fl = some d -> ∀ v h' tk,EX C.T h0 h' -> GG C H0 h' -> Rd H0 h' v d -> Q (.ret v) { s with heap:=h',toks:=tk }
noncomputable def SndB (C:Cx) (F:Str -> List RV -> Option PyData) (n:Nat) (b:Bk):Prop:=∀ {lam:Option Pos} {Γ:List (Str × NameKind)} {env:Env} {H0 B:Addr -> Prop} {h0:Heap} {xs:List Stmt} {σ σ':List Sl} {fl:Option PyData} {A:Around} {O:Nat -> List Addr} {s:Shared} {Q:Flow -> Shared -> Prop} {Ex:Value -> Shared -> Prop},
 FE C lam Γ env H0 B h0 -> AOk A (n + 1) -> isB C.G lam Γ env.scope b xs = true -> evS F b σ = some (fl,σ') -> SR C Γ env B h0 s.heap σ O -> Kt C Γ env H0 B h0 s O fl σ' Q -> wpAny (model C.prog C.w) A (execs xs env) Q Ex s
theorem swap_eq {v:PySem.Expr} {x:Str} {px:Pos} {l:Nat} {env:Env} (hk:env.scope.kind = .function) (h:noSD v = true) :
  swapsWith v (some (.Name x px)) l env = pure (swapB env.scope v x px):=by
 by_cases k8:v.ctorIdx = 8
 ·refine Expr.ListComp.elim (motive_1:=fun v => swapsWith v (some (.Name x px)) l env = pure (swapB env.scope v x px)) v k8 fun elt gens sc pos => ?_
  show (pure (env.blockKind == .function && env.kindOf x == some .local && px.line == pos.line && !(sc.names.any fun (n,k) => n == x && (k == .local || k == .cell))):Sem Bool) = _
  have:env.blockKind = .function:=by unfold Env.blockKind; rw [hk]; rfl
  rw [this]
  rfl
 ·cases v <;> first | rfl | exact (k8 rfl).elim | (cases h; done)
theorem list_of {v:PySem.Expr} (h:v.ctorIdx = 24):∃ zs p,v = .List zs p:=Expr.List.elim (motive_1:=fun v => ∃ zs p,v = .List zs p) v h fun zs p => ⟨zs,p,rfl⟩
theorem tuple_of {v:PySem.Expr} (h:v.ctorIdx = 25):∃ zs k p,v = .Tuple zs k p:=Expr.Tuple.elim (motive_1:=fun v => ∃ zs k p,v = .Tuple zs k p) v h fun zs k p => ⟨zs,k,p,rfl⟩
theorem nt1 {elts:List PySem.Expr} {k l:Nat} {p:Pos} {v:PySem.Expr} {env:Env} (h:notTup v = true):swapsWithSole [.Tuple elts k p] v l env = pure false:=by
 cases v <;> first | rfl | (cases h; done)
theorem nt2 {elts:List PySem.Expr} {k:Nat} {p:Pos} {v:PySem.Expr} {env:Env} (h:notTup v = true):swappedStores [.Tuple elts k p] v env = pure none:=by
 cases v <;> first | rfl | (cases h; done)
theorem noSD_swap {sc:Scope} {v:PySem.Expr} {x:Str} {px:Pos} (hs:swapB sc v x px = true):noSD v = true:=by
 exact vLC0_elim (motive:=fun v => noSD v = true) hs fun _ _ _ _ _ => rfl
theorem isX_LC {G:GC} {lam:Option Pos} {e:E} {Γ:List (Str × NameKind)} {sc:Scope} {v:PySem.Expr} (hv:v.ctorIdx = 8) (h:isX G lam e false Γ sc v = true):∃ m it c e',e = .comp m it c e':=by
 revert h
 refine Expr.ListComp.elim (motive_1:=fun v => isX G lam e false Γ sc v = true -> ∃ m it c e',e = .comp m it c e') v hv fun a b c d h => ?_
 cases e <;> first | exact ⟨_,_,_,_,rfl⟩ | exact (Bool.false_ne_true h).elim
theorem isX_Lst {G:GC} {lam:Option Pos} {e:E} {Γ:List (Str × NameKind)} {sc:Scope} {zs:List PySem.Expr} {p:Pos} (h:isX G lam e false Γ sc (.List zs p) = true):∃ es,e = .lst es:=by
 cases e <;> first | exact ⟨_,rfl⟩ | exact (Bool.false_ne_true h).elim | (rw [isX_comp_eq] at h; exact (Bool.false_ne_true h).elim)
section
variable {C:Cx} {F:Str -> List RV -> Option PyData} {n:Nat}
theorem b_nil:SndB C F n .nil:=by
 intro lam Γ env H0 B h0 xs σ σ' fl A O s Q Ex f ao hx hev r k
 replace hx:=List.isEmpty_iff.mp hx; subst hx
 cases hev
 exact wpAny_execs_nil (k.next rfl s.heap s.toks O r Fr.refl)
theorem Kt.after {Γ:List (Str × NameKind)} {env:Env} {H0 B:Addr -> Prop} {h0:Heap} {s:Shared} {O O':Nat -> List Addr} {fl:Option PyData} {σ:List Sl} {Q:Flow -> Shared -> Prop} (k:Kt C Γ env H0 B h0 s O fl σ Q) {h':Heap} {tk:Nat} (fr:Fr C env O O' s.heap h'):Kt C Γ env H0 B h0 { s with heap:=h',toks:=tk } O' fl σ Q:=
 ⟨fun e h tk O r x => k.next e h tk O r (fr.trans x),fun d e v h tk x g r => k.ret d e v h tk x g r⟩
theorem b_frz {i:Nat} {b:Bk} (ib:SndB C F n b):SndB C F n (.frz i b):=by
 intro lam Γ env H0 B h0 xs σ σ' fl A O s Q Ex f ao hx hev r k
 refine xEA (r.frz f i) fun O' r' kk => ?_
 exact ib f ao hx hev r' (k.after (tk:=s.toks) (Fr.frz kk))
theorem SR.unhideX {lam:Option Pos} {Γ:List (Str × NameKind)} {env:Env} {H0 B:Addr -> Prop} {h0 h h':Heap} {σ:List Sl} {O:Nat -> List Addr} (f:FE C lam Γ env H0 B h0) {L:Addr} (r:SR C Γ env (HideL B [L]) h0 h σ O) (e:EX [L] h h') (nB:¬ B L) (nT:L ∉ C.T) (nb:C.hb.get? L = none) (n0:h0.get? L = none):SR C Γ env B h0 h' σ O:=by
 have oL:Own C (HC (HideL B [L]) O) L:=⟨.inl (.inr List.mem_cons_self),nT,nb⟩
 have nO:∀ i,∀ a ∈ O i,a ∉ [L]:=fun i a m q => (r.own i a m).2.2.2 (.inr q)
 have hs:∀ b,HC B O b -> HC (HideL B [L]) O b /\ b ≠ L:=fun b m => by
  rcases m with m | ⟨i,m⟩
  ·exact ⟨.inl (.inl m),fun e => nB (e ▸ m)⟩
  ·exact ⟨.inr ⟨i,m⟩,fun e => nO i b m (by rw [e]; exact List.mem_cons_self)⟩
 refine ⟨r.ex.fresh n0 e,r.gg.drop1 oL e hs (fun b m => .inl (f.tB b m)),r.len,r.ns' f nB e,r.cel' f nB e,fun j z kz hj => ?_,r.out,fun i a m => ?_,r.dis,r.ndp⟩
 ·exact ((r.sl j z kz hj).ex e oL.one (nO j) fun w => Loads.keep f nB e).mapH fun b m => .inl (hs b m).1
 ·refine xAAA (r.own i a m) fun h1 h2 h3 h4 => ?_
  exact ⟨h1,h2,h3,fun q => h4 (.inl q)⟩
theorem Put.more {env:Env} {B B':Addr -> Prop} {h0 h h':Heap} {x:Str} {k:NameKind} {v:Value} (p:Put C env B h0 h h' x k v) (q:∀ a,B a -> B' a):Put C env B' h0 h h' x k v:=by obtain ⟨a,oa,r⟩:=p.loc; exact ⟨⟨a,oa.more q,r⟩,p.ld,p.oth,p.ns,p.cel⟩
theorem comp_use (sd:∀ e,Snd C F n e) {lam:Option Pos} {Γ:List (Str × NameKind)} {env:Env} {H0 B:Addr -> Prop} {h0:Heap} {σ:List Sl} {A:Around} {O:Nat -> List Addr} {s:Shared} {Q:Flow -> Shared -> Prop} {Ex:Value -> Shared -> Prop} {i:Nat} {e:E} {x:Str} {px pos:Pos} {v:PySem.Expr} {d:PyData}
  (f:FE C lam Γ env H0 B h0) (ao:AOk A (n + 1)) (hx:nameOk Γ env.scope i x = true) (hs:swapB env.scope v x px = true) (he:isX C.G lam e false Γ env.scope v = true) (hev:evE F e (rvs σ) = some d) (r:SR C Γ env B h0 s.heap σ O)
  (k:∀ (tot:List PyData) (kd:NameKind) (acc:Addr) (vs:Array Value) (h h2:Heap) (B1:Addr -> Prop),EX C.T s.heap h -> s.heap.get? acc = none -> d = .list tot -> Γ[i]? = some (x,kd) -> FE C lam Γ env H0 B1 h0 -> SR C Γ env (HideL B1 [acc]) h0 h σ O -> Put C env B1 h0 h h2 x kd (.ref acc) -> (acc ∉ C.T /\ C.hb.get? acc = none /\ h0.get? acc = none /\ ¬ B1 acc) -> h.PlainList acc vs -> Rds (HC (HideL B1 [acc]) O) h vs.toList tot -> tot.length <= big ->
   ∃ σ' O',SR C Γ env B1 h0 h2 σ' O' /\ Fr C env O O' s.heap h2 /\ ∀ h3 tk,SR C Γ env B h0 h3 σ' O' -> Fr C env O O' s.heap h3 -> Q .next { s with heap:=h3,toks:=tk }) :
  wpAny (model C.prog C.w) A (exec (.Assign [.Name x px] v pos) env) Q Ex s:=by
 refine xEAAA (nameOk_inv hx) fun kd h1 h2 h3 h4 => ?_
 have hnc:noSD v = true:=noSD_swap hs
 have hsw:swapsWith v (some (.Name x px)) pos.line env = pure true:=by rw [swap_eq f.kind hnc,hs]
 refine xEEEE (isX_LC (vLC0_elim (motive:=fun v => v.ctorIdx = 8) hs fun _ _ _ _ _ => rfl) he) fun m it c e' r4 => ?_
 obtain rfl:=r4
 revert hs hsw hnc
 apply isX_comp (x:=v) he; intro elt tgt iter ifs scope p ns htg hk hnd hit hsc hlk hifs helt hs hnc hsw
 subst hk
 refine obind hev fun items hev1 hev => ?_
 refine xEA (Option.map_eq_some_iff.mp hev) fun tot hcd r2 => ?_
 obtain rfl:=r2
 refine obind hev1 fun di ei hitems => ?_
 rw [exec_Assign_Name_used _ _ _ _ hsw]
 refine wpAny_bind (wpAny_standAt (wpAny_bind ?_))
 show wpAny _ A (do let _ <- comprehension (.ListComp elt [⟨tgt,iter,ifs,0⟩] scope p) scope env _ (newList []) false (eval iter env) (some (assign (.Name x px) env))) _ _ s
 refine wpAny_bind (wpAny_mono (Q:=fun _ s' => Q .next s') ?_ (fun _ s' hq => wpAny_pure (wpAny_pure hq)) fun _ _ e => e)
 have hr:=r.here f ao
 refine comp_core (sd it) (sd c) (sd e') htg hnd hit hsc hlk hifs helt ei hitems hcd hr fun H2 acc L h tk vs ex sub mo gg oA oL nA nL dAL la ra ns hb => ?_
 show wpAny _ A (assign (.Name x px) env (.ref acc)) _ _ _
 have nHA:¬ HC B O acc:=fun q => by obtain ⟨o,eo⟩:=r.gg.live acc q; rw [nA] at eo; cases eo
 have nHL:¬ HC B O L:=fun q => by obtain ⟨o,eo⟩:=r.gg.live L q; rw [nL] at eo; cases eo
 have h0A:h0.get? acc = none:=EX.none_of r.ex oA.2.1 nA
 have h0L:h0.get? L = none:=EX.none_of r.ex oL.2.1 nL
 have f1:FE C lam Γ env H0 (HideL B [L]) h0:=f.hide fun a q => by rw [List.mem_singleton.mp q]; exact h0L
 have subA:∀ b,HC (HideL (HideL B [L]) [acc]) O b -> H2 b:=fun b q => by
  rcases q with ((q | q) | q) | q
  ·exact sub b (.inl q)
  ·rw [List.mem_singleton.mp q]; exact oL.1
  ·rw [List.mem_singleton.mp q]; exact oA.1
  ·exact sub b (.inr q)
 have tA:∀ a ∈ C.T,HideL (HideL B [L]) [acc] a:=fun a q => .inl (.inl (f.tB a q))
 have rA:SR C Γ env (HideL (HideL B [L]) [acc]) h0 h σ O:=r.grow f (fun a q => by
  rcases q with (q | q) | q
  ·exact .inl q
  ·rw [List.mem_singleton.mp q]; exact .inr ⟨nL,fun j q => nHL (.inr ⟨j,q⟩)⟩
  ·rw [List.mem_singleton.mp q]; exact .inr ⟨nA,fun j q => nHA (.inr ⟨j,q⟩)⟩) ex (gg.less subA fun b q => .inl (tA b q)) tA
 refine wpAny_assign_Name (put_store (B':=HideL (HideL B [L]) [acc]) f (s:={ s with heap:=h,toks:=tk }) rA h1 fun h'' tk' p => ?_)
 refine xEAAAA (p.loc) fun a oa ea lia na _ => ?_
 have ea':EX [a] h h'':=ea
 obtain ⟨mL,hmL⟩:=ns
 refine xEEAA (k tot kd acc vs h h'' _ ex nA rfl h1 f1 rA (p.more fun _ q => .inl q) ⟨oA.2.1,oA.2.2,h0A,fun q => q.elim (fun q => nHA (.inl q)) fun q => dAL (List.mem_singleton.mp q)⟩ la (ra.less subA) hb) fun σ' O' r2 fr2 kk => ?_
 have nsL2:∃ m,h''.Ns L m:=⟨mL,Ns.ex hmL ea' (fun q => nHL (.inl (by rw [List.mem_singleton.mp q]; exact oa.1)))⟩
 obtain ⟨m2,hm2⟩:=nsL2
 refine ⟨m2,hm2,fun h4 sb => ?_⟩
 exact kk h4 tk' (r2.unhideX f (same_ex sb) (fun q => nHL (.inl q)) oL.2.1 oL.2.2 h0L) (fr2.fresh (same_ex sb) nL)
end
section
variable {C:Cx} {F:Str -> List RV -> Option PyData} {n:Nat}
theorem SR.alloc {lam:Option Pos} {Γ:List (Str × NameKind)} {env:Env} {H0 B:Addr -> Prop} {h0 h:Heap} {σ:List Sl} {O:Nat -> List Addr} (f:FE C lam Γ env H0 B h0) (r:SR C Γ env B h0 h σ O) (o:Obj) (ho:o.isFreed = false) :
  SR C Γ env (HideL B [h.objs.size]) h0 (h.push o) σ O /\ (h.objs.size ∉ C.T /\ C.hb.get? h.objs.size = none /\ h0.get? h.objs.size = none /\ ¬ B h.objs.size) /\ (∀ a,HC (HideL B [h.objs.size]) O a -> HC B O a \/ h.get? a = none):=by
 have nn:h.get? h.objs.size = none:=Heap.get?_none_of_le (Nat.le_refl _)
 have nH:¬ HC B O h.objs.size:=r.gg.new
 have oN:=own_new r.gg
 have k:∀ a,HC (HideL B [h.objs.size]) O a -> Hide (HC B O) h.objs.size a:=fun a m => by
  rcases m with (m | m) | m
  ·exact .inl (.inl m)
  ·exact .inr (List.mem_singleton.mp m)
  ·exact .inl (.inr m)
 have tA:∀ a ∈ C.T,HideL B [h.objs.size] a:=fun a q => .inl (f.tB a q)
 refine ⟨r.grow f (fun a m => ?_) (Ext.ex (Ext.push o)) ((r.gg.hideNew o ho).less k fun b q => .inl (tA b q)) tA,⟨oN.2.1,oN.2.2,EX.none_of r.ex oN.2.1 nn,fun q => nH (.inl q)⟩,fun a m => ?_⟩
 ·rcases m with m | m
  ·exact .inl m
  ·rw [List.mem_singleton.mp m]; exact .inr ⟨nn,fun i q => nH (.inr ⟨i,q⟩)⟩
 ·rcases k a m with m | rfl
  ·exact .inl m
  ·exact .inr nn
theorem b_asg (sd:∀ e,Snd C F n e) {i:Nat} {e:E} {b:Bk} (ib:SndB C F n b):SndB C F n (.asg i e b):=by
 intro lam Γ env H0 B h0 xs σ σ' fl A O s Q Ex f ao hx hev r k
 apply bAsgN_elim (xs:=xs) hx; intro x px v pos q hx
 ·refine obind hev fun d ed hev => ?_
  refine ba4 hx fun hn hv hsd hq => ?_
  have hsd':noSD v = true:=hsd
  refine xEAAA (nameOk_inv hn) fun kd h1 h2 h3 h4 => ?_
  cases hsw:swapB env.scope v x px with
  | true =>
   refine wpAny_execs_cons (comp_use sd f ao hn hsw hv ed r fun tot kd' acc vs h h2 B1 ex nA hd hG f1 rA p ha la ra hb => ?_)
   subst hd
   have nO:∀ j,acc ∉ O j:=fun j m => (rA.own j acc m).2.2.2 (.inr List.mem_cons_self)
   have r1:=rA.unhide f1
   refine ⟨_,_,r1.putRV f1 hG p (rv:=.d (.list tot)) (Rd.ofList hb (fun m => ?_) la.isList (ra.less fun b m => m.imp .inl id)),(Fr.T ex).put p no_mem,fun h3 tk r3 fr3 => ?_⟩
   ·rcases m with m | ⟨j,m⟩
    ·exact ha.2.2.2 m
    ·exact nO j m
   ·exact ib f ao hq hev r3 (k.after fr3)
  | false =>
   refine wpAny_execs_cons (wpAny_Assign_Name ((sd e).v hv ed (r.here f ao) fun v' h' tk ke g rd => put_store f (s:={ s with heap:=h',toks:=tk }) (r.step f ke g) h1 fun h'' tk' p => ?_) (by rw [swap_eq f.kind hsd',hsw]))
   exact ib f ao hq hev ((r.step f ke g).putRV f h1 p (rv:=.d d) rd) (k.after ((Fr.T ke).put p no_mem))
theorem b_own (sd:∀ e,Snd C F n e) {i:Nat} {e:E} {b:Bk} (ib:SndB C F n b):SndB C F n (.own i e b):=by
 intro lam Γ env H0 B h0 xs σ σ' fl A O s Q Ex f ao hx hev r k
 apply bAsgN_elim (xs:=xs) hx; intro x px v pos q hx
 ·refine obind hev fun ys ed hv2 => ?_
  refine obind ed fun d ed hl => ?_
  unfold isLst at hl
  split at hl
  ·rename_i ys'
   cases hl
   refine ba4 hx fun hn hfr hv hq => ?_
   refine xEAAA (nameOk_inv hn) fun kd h1 h2 h3 h4 => ?_
   cases hsw:swapB env.scope v x px with
   | true =>
    refine wpAny_execs_cons (comp_use sd f ao hn hsw hv ed r fun tot kd' acc vs h h2 B1 ex nA hd hG f1 rA p ha la ra hb => ?_)
    cases hd
    refine ⟨_,_,rA.putOwn f1 hG p (by simp) (fun b m => by rw [List.mem_singleton.mp m]; exact ha) la (items:=ys.map .fz) (ItmsR.ofRds ra) (by rw [List.length_map]; exact hb),(Fr.T ex).put p (fun b m => by rw [List.mem_singleton.mp m]; exact nA),fun h3 tk r3 fr3 => ?_⟩
    exact ib f ao hq hv2 r3 (k.after fr3)
   | false =>
    obtain ⟨zs,p,rfl⟩:=list_of (v:=v) (by unfold freshL at hfr; rw [hsw,Bool.or_false,beq_iff_eq] at hfr; exact hfr)
    obtain ⟨es,rfl⟩:=isX_Lst hv
    have hv3:(isXs C.G lam es false Γ env.scope zs && decide (zs.length <= 1000)) = true:=hv
    have hes:=(Bool.and_eq_true_iff.mp hv3).1
    have hlen:zs.length <= 1000:=of_decide_eq_true (Bool.and_eq_true_iff.mp hv3).2
    refine xEA (Option.map_eq_some_iff.mp ed) fun ds el e => ?_
    cases e
    have hdl:=isXs_len hes el
    refine wpAny_execs_cons (wpAny_Assign_Name (List_ ?_) rfl)
    rw [backTo_self (stars_plain hes)]
    refine (sd es).l hes el (r.here f ao) fun vs h' tk ke g rs => ?_
    have hb:big = 1000000:=rfl
    have r':=r.step f ke g
    refine wpAny_newList ?_ (by rw [rs.length]; have:sizeLine = 16777216:=rfl; lia)
    refine xAA (r'.alloc f { cls:=.type "list",data:=.seq vs.toArray } rfl) fun r2 ha km => ?_
    refine put_store f (s:={ s with heap:=h'.push { cls:=.type "list",data:=.seq vs.toArray },toks:=tk }) r2 h1 fun h'' tk' p' => ?_
    have hrds:Rds (HC (HideL B [h'.objs.size]) O) (h'.push { cls:=.type "list",data:=.seq vs.toArray }) vs.toArray.toList ys:=by
     have:=(rs.more km).ex (Ext.ex (X:=[]) (Ext.push { cls:=.type "list",data:=.seq vs.toArray })) no_mem
     exact this
    exact ib f ao hq hv2 (r2.putOwn f h1 p' (by simp) (fun b m => by rw [List.mem_singleton.mp m]; exact ha) ⟨_,Heap.get?_push_size _ rfl⟩ (items:=ys.map .fz) (ItmsR.ofRds hrds) (by rw [List.length_map]; lia)) (k.after ((Fr.T (ke.trans (Ext.ex (Ext.push _)))).put p' fun b m => by rw [List.mem_singleton.mp m]; exact EX.none_of ke ha.1 (Heap.get?_none_of_le (Nat.le_refl _))))
  ·cases hl
theorem b_ret (sd:∀ e,Snd C F n e) {e:E}:SndB C F n (.ret e):=by
 intro lam Γ env H0 B h0 xs σ σ' fl A O s Q Ex f ao hx hev r k
 apply bRet_elim (xs:=xs) hx; intro z1 z2 z3 hx
 ·refine xEA (Option.map_eq_some_iff.mp hev) fun d ed hev => ?_
  cases hev
  refine wpAny_execs_cons (wpAny_Return_some ((sd e).v hx ed (r.here f ao) fun v h' tk ke g rd => ?_))
  refine k.ret d rfl v h' tk (r.ex.trans ke) (g.less (fun a m => .inl (f.sub a m)) f.g0.hid) (rd.less fun a m => .inl (f.sub a m))
theorem b_ite (sd:∀ e,Snd C F n e) {c:E} {a b q:Bk} (ia:SndB C F n a) (ib:SndB C F n b) (iq:SndB C F n q):SndB C F n (.ite c a b q):=by
 intro lam Γ env H0 B h0 xs σ σ' fl A O s Q Ex f ao hx hev r k
 apply bIf_elim (xs:=xs) hx; intro z1 z2 z3 z4 qs hx
 ·refine obind hev fun t ec hev => ?_
  refine obind hev fun ⟨o,σ1⟩ eb hev => ?_
  refine ba4 hx fun hc ha hb hq => ?_
  refine wpAny_execs_cons (wpAny_If ((sd c).c hc ec (r.here f ao) fun h' tk ke g => ?_))
  have r':=r.step f ke g
  have kk:Kt C Γ env H0 B h0 { s with heap:=h',toks:=tk } O o σ1 (fun f s' => match f with | .next => wpAny (model C.prog C.w) A (execs qs env) Q Ex s' | f => Q f s'):=by
   refine ⟨fun e h'' tk' O' r'' fr => ?_,fun d e v h'' tk' x g' rd => ?_⟩
   ·subst e; exact iq f ao hq hev r'' (k.after ((Fr.T ke).trans fr))
   ·subst e; cases hev; exact k.ret d rfl v h'' tk' x g' rd
  cases ht:truth t with
  | true => rw [ht,if_pos rfl] at eb; rw [if_pos rfl]; exact ia f ao ha eb r' kk
  | false => rw [ht] at eb; exact ib f ao hb eb r' kk
theorem b_asrt (sd:∀ e,Snd C F n e) {c:E} {q:Bk} (iq:SndB C F n q):SndB C F n (.asrt c q):=by
 intro lam Γ env H0 B h0 xs σ σ' fl A O s Q Ex f ao hx hev r k
 apply bAst_elim (xs:=xs) hx; intro z1 z2 z3 qs hx
 ·refine obind hev fun t ec hev => ?_
  rw [Bool.and_eq_true] at hx
  replace hev:(if truth t = true then evS F q σ else none) = some (fl,σ'):=hev
  split at hev
  ·rename_i ht
   refine wpAny_execs_cons (wpAny_Assert_holds ((sd c).c hx.1 ec (r.here f ao) fun h' tk ke g => ⟨ht,?_⟩))
   exact iq f ao hx.2 hev (r.step f ke g) (k.after (Fr.T ke))
  ·cases hev
theorem ite_opt {α:Type} {c:Prop} [Decidable c] {o:Option α} {z:α} (h:(if c then o else none) = some z):c /\ o = some z:=by
 by_cases k:c
 ·rw [if_pos k] at h; exact ⟨k,h⟩
 ·rw [if_neg k] at h; cases h
theorem slD_inv {y:Sl} {x:PyData} (h:slD y = some x):y = .rv (.d x):=by
 cases y with
 | own _ => cases h
 | rv r => obtain ⟨z,rfl,e⟩:=dR_inv h; cases e; rfl
theorem b_aug (sd:∀ e,Snd C F n e) {i:Nat} {op:Operator} {e:E} {q:Bk} (iq:SndB C F n q):SndB C F n (.aug i op e q):=by
 intro lam Γ env H0 B h0 xs σ σ' fl A O s Q Ex f ao hx hev r k
 apply bAug_elim (xs:=xs) hx; intro z1 z2 z3 z4 z5 qs hx
 refine obind hev fun y ey hev => ?_
 refine obind hev fun z ez hev => ?_
 refine obind ez fun x0 hs0 ez => ?_
 obtain ⟨hok,hz⟩:=ite_opt ez
 refine ba2 hok fun hop hst => ?_
 obtain ⟨a,rfl⟩:=isStrD_inv hst
 have hop:=eq_of_beq hop
 subst hop
 have hs:=slD_inv hs0
 refine ba4 hx fun hn ho hv hq => ?_
 have ho:=eq_of_beq ho
 subst ho
 refine xEA (sP_inv hz) fun b e1 hz => ?_
 subst e1
 obtain ⟨hlen,rfl⟩:=ite_some hz
 refine xEAAA (nameOk_inv hn) fun kd h1 h2 h3 h4 => ?_
 have hsl:=r.sl i _ _ h1
 rw [hs] at hsl
 rcases hsl.2 with hsl | ⟨w,ld,rw⟩
 ·cases hsl
 ·obtain ⟨t,rfl,o1⟩:=Rd.str_inv rw
  refine wpAny_execs_cons (wpAny_AugAssign_Name ?_)
  have go:wpAny (model C.prog C.w) A (eval _ env) (fun v s₂ => wpAny (model C.prog C.w) A (inplaceOp .Add (.str a t) v) (fun r s₃ => wpAny (model C.prog C.w) A (storeName env _ r) (fun _ s₄ => wpAny (model C.prog C.w) A (execs _ env) Q Ex s₄) Ex s₃) Ex s₂) Ex s:=
   (sd e).v hv ey (r.here f ao) fun v h' tk ke g rd => by
    obtain ⟨u,rfl,o2⟩:=rd.str_inv
    refine op_iadd_str (s:={ s with heap:=h',toks:=tk }) o1 o2 hlen g fun v2 h2 tk2 ke2 g2 rd2 => ?_
    refine put_store f (s:={ s with heap:=h2,toks:=tk2 }) ((r.step f ke g).step f ke2 g2) h1 fun h3 tk3 p => ?_
    exact iq f ao hq hev (((r.step f ke g).step f ke2 g2).putRV f h1 p rd2) (k.after ((Fr.T (ke.trans ke2)).put p no_mem))
  rcases ld with ⟨rfl,_,m,hn,hm⟩ | ⟨rfl,c,_,hc,hv⟩
  ·exact wpAny_loadName_local f.kind h2 hn hm go
  ·exact wpAny_loadName_cell f.kind h2 hc hv go
theorem b_srch (K:CxOk C) (sd:∀ e,Snd C F n e) {i:Nat} {p:Pat} {e:E} {q:Bk} (iq:SndB C F n q):SndB C F n (.srch i p e q):=by
 intro lam Γ env H0 B h0 xs σ σ' fl A O s Q Ex f ao hx hev r k
 apply bSrch_elim (xs:=xs) hx; intro z1 z2 z3 z4 z5 z6 z7 z8 z9 qs hx
 ·refine obind hev fun y ey0 hev => ?_
  refine obind ey0 fun d ey hd => ?_
  unfold strD at hd
  split at hd
  ·obtain ⟨hlen,rfl⟩:=ite_some hd
   refine ba8 hx fun hn hp hg hm hl hv hpt hq => ?_
   rw [beq_iff_eq] at hp hm
   subst hm
   have hpt':p = .tok \/ p = .quo \/ p = .val:=by
    rw [Bool.or_eq_true,Bool.or_eq_true,beq_iff_eq,beq_iff_eq,beq_iff_eq] at hpt
    rcases hpt with (h | h) | h
    ·exact .inl h
    ·exact .inr (.inl h)
    ·exact .inr (.inr h)
   refine xEAAA (nameOk_inv hn) fun kd h1 h2 h3 h4 => ?_
   refine wpAny_execs_cons (wpAny_Assign_Name (pat_call K hp hg hl (fun z hz => ?_) (show 1 < 29 by decide) slot_search type_search (r.here f ao) fun pa hpa => ?_) rfl)
   ·rw [notStar hv] at hz
    rw [List.mem_singleton.mp hz]
   ·rw [notStar hv]
    refine PySem.Calls.spliced_cons ((sd e).v hv ey (r.here f ao) fun va h' tk ke g ra => PySem.Calls.spliced_nil ?_)
    refine op_search (s:={ s with heap:=h',toks:=tk }) hpt' hlen (hpa _ ke g) ra g fun v h'' tk' x hv' => ?_
    have r2:=(r.step f ke g).step f (Ext.ex x) (g.same x)
    refine put_store f (s:={ s with heap:=h'',toks:=tk' }) r2 h1 fun h3 tk3 pp => ?_
    refine iq f ao hq hev (r2.putRV f h1 pp ?_) (k.after ((Fr.T (ke.trans (Ext.ex x))).put pp no_mem))
    unfold srchRV
    rcases hv' with ⟨rfl,e⟩ | ⟨b,st,hd,gr,rfl,e,mt⟩
    ·rw [e]; exact Rd.none
    ·rw [e]; exact ⟨b,rfl,mt⟩
  ·cases hd
end
section
variable {C:Cx} {lam:Option Pos} {Γ:List (Str × NameKind)} {env:Env} {H0 B:Addr -> Prop} {h0 h h':Heap} {σ:List Sl} {O:Nat -> List Addr} {n:Nat} {A:Around} {s:Shared} {Ex:Value -> Shared -> Prop}
theorem load_loads (f:FE C lam Γ env H0 B h0) {i:Nat} {x:Str} {k:NameKind} {p:Pos} {v:Value} {Q:Value -> Shared -> Prop} (hi:Γ[i]? = some (x,k)) (hd:(x == ("__debug__":Str)) = false) (l:Loads C.T env s.heap x k v) (q:Q v s) :
  wpAny (model C.prog C.w) A (eval (.Name x p) env) Q Ex s:=by
 obtain ⟨h2,_⟩:=f.kd i x k hi
 refine wpAny_Name ?_ hd
 rcases l with ⟨rfl,_,m,hn,hm⟩ | ⟨rfl,c,_,hc,hv⟩
 ·exact wpAny_loadName_local f.kind h2 hn hm q
 ·exact wpAny_loadName_cell f.kind h2 hc hv q
theorem setAll_len:∀ {is:List Nat} {rs:List RV} {σ:List Sl},(setAll σ is rs).length = σ.length
 | [],_,_ => rfl
 | _ :: _,[],_ => rfl
 | i :: is,r :: rs,σ => by unfold setAll; rw [setAll_len,List.length_set]
theorem setAll_other {j:Nat}:∀ {is:List Nat} {rs:List RV} {σ:List Sl},j ∉ is -> getSl (setAll σ is rs) j = getSl σ j
 | [],_,_,_ => rfl
 | _ :: _,[],_,_ => rfl
 | i :: is,r :: rs,σ,h => by
  unfold setAll
  rw [setAll_other fun m => h (List.mem_cons_of_mem _ m),getSl_set_ne fun e => h (by rw [e]; exact List.mem_cons_self)]
theorem setAll_at {j:Nat} {rv:RV}:∀ {is:List Nat} {rs:List RV} {σ:List Sl} {t:Nat},is.Nodup -> is[t]? = some j -> rs[t]? = some rv -> j < σ.length -> getSl (setAll σ is rs) j = .rv rv
 | [],_,_,_,_,h,_,_ => by simp at h
 | _ :: _,[],_,_,_,_,h,_ => by simp at h
 | i :: is,r :: rs,σ,t,hn,h1,h2,hl => by
  unfold setAll
  rw [List.nodup_cons] at hn
  cases t with
  | zero => simp at h1 h2; subst h1 h2; rw [setAll_other hn.1,getSl_set hl]
  | succ t => exact setAll_at hn.2 (by simpa using h1) (by simpa using h2) (by rw [List.length_set]; exact hl)
theorem isTgt_inv {is:List Nat} {ns:List Str} {sc:Scope} (h:isTgt Γ sc is ns = true):is.length = ns.length /\ ns.Nodup /\ ∀ (t i:Nat) (x:Str),is[t]? = some i -> ns[t]? = some x -> Γ[i]? = some (x,.local):=by
 unfold isTgt at h
 rw [Bool.and_eq_true,Bool.and_eq_true,beq_iff_eq,decide_eq_true_eq,List.all_eq_true] at h
 obtain ⟨⟨h1,h2⟩,h3⟩:=h
 refine ⟨h1,h2,fun t i x hi hx => ?_⟩
 have:(i,x) ∈ is.zip ns:=by
  refine List.mem_of_getElem? (i:=t) ?_
  rw [List.getElem?_zip_eq_some]; exact ⟨hi,hx⟩
 have:=h3 _ this
 rw [Bool.and_eq_true,beq_iff_eq] at this
 exact this.1
theorem SR.binds (f:FE C lam Γ env H0 B h0) (r:SR C Γ env B h0 h σ O) {is:List Nat} {ns:List Str} {tg:List RV} {vs:List Value} {m:Str -> Option Value} (ht:isTgt Γ env.scope is ns = true) (hm:h.Ns env.locals m) (hm':h'.Ns env.locals (bindN m ns vs)) (e:EX [env.locals] h h')
  (hv:∀ (t:Nat) (rv:RV),tg[t]? = some rv -> ∃ w,vs[t]? = some w /\ RVok (HC B O) h w rv) (hl:tg.length = ns.length) :
  ∃ O',SR C Γ env B h0 h' (setAll σ is tg) O' /\ (∀ b,HC B O' b -> HC B O b) /\ Fr C env O O' h h':=by
 refine xAA (isTgt_inv ht) fun h1 h2 h3 => ?_
 have hnd:is.Nodup:=by
  refine List.pairwise_iff_getElem.mpr fun t t' h1' h2' hlt heq => ?_
  have hi:is[t]? = some is[t]:=List.getElem?_eq_getElem h1'
  have hi':is[t']? = some is[t]:=by rw [heq]; exact List.getElem?_eq_getElem h2'
  have e1:=h3 t _ _ hi (List.getElem?_eq_getElem (by lia))
  have e2:=h3 t' _ _ hi' (List.getElem?_eq_getElem (by lia))
  rw [e1] at e2
  have e3:=(Prod.mk.inj (Option.some.inj e2)).1
  have:=(List.getElem_inj h2).mp e3
  lia
 have ooN:∀ j,env.locals ∉ O j:=fun j q => (r.own j _ q).2.2.2 f.loc.1
 let O':Nat -> List Addr:=fun j => if j ∈ is then [] else O j
 have hsub:∀ j b,b ∈ O' j -> b ∈ O j:=fun j b q => by
  by_cases hj:j ∈ is
  ·simp only [O',if_pos hj] at q; cases q
  ·simpa only [O',if_neg hj] using q
 have kk:∀ b,HC B O' b -> HC B O b:=fun b q => q.imp id fun ⟨j,q⟩ => ⟨j,hsub j b q⟩
 have oL:Own C (HC B O) env.locals:=f.loc.more fun _ q => .inl q
 refine ⟨O',⟨r.ex.fresh f.locF e,(r.gg.step1 oL e (Ns.live hm')).less kk fun b q => .inl (f.tB b q),by rw [setAll_len]; exact r.len,⟨_,hm'⟩,fun y c hc => ?_,fun j z kz hj => ?_,fun j hj => ?_,fun j b q => r.own j b (hsub j b q),fun j j' b q q' => r.dis j j' b (hsub j b q) (hsub j' b q'),fun j => ?_⟩,kk,
  fun b o n1 n2 q => e b o (fun m' => n1 (.inr (.inl (List.mem_singleton.mp m')))) q,fun j b q => .inl ⟨j,hsub j b q⟩⟩
 ·refine xEEA (r.cel y c hc) fun v o eo q => ?_
  exact ⟨v,o,e c o (fun q => (f.cel y c hc).2.2 (List.mem_singleton.mp q)) eo,q⟩
 ·by_cases hjm:j ∈ is
  ·obtain ⟨t,htl,hte⟩:=List.getElem_of_mem hjm
   have hi:is[t]? = some j:=by rw [List.getElem?_eq_getElem htl,hte]
   have hx:ns[t]? = some (ns[t]'(by lia)):=List.getElem?_eq_getElem (by lia)
   have hg:=h3 t j _ hi hx
   rw [hg] at hj; cases hj
   obtain ⟨rv,hrv⟩:∃ rv,tg[t]? = some rv:=⟨tg[t]'(by lia),List.getElem?_eq_getElem (by lia)⟩
   rw [setAll_at hnd hi hrv (r.nlen hg)]
   refine xEA (hv t rv hrv) fun w hw rw' => ?_
   have:O' j = []:=if_pos hjm
   rw [this]
   refine ⟨rfl,.inr ⟨w,.inl ⟨rfl,f.loc.2.1,_,hm',bindN_at h2 hx hw⟩,?_⟩⟩
   exact (rw'.ex e oL.one).less kk
  ·rw [setAll_other hjm]
   have hO':O' j = O j:=if_neg hjm
   rw [hO']
   refine ((r.sl j z kz hj).ex e oL.one (fun b q q' => ooN j (by rw [<- List.mem_singleton.mp q']; exact q)) fun w ld => ?_).mapH fun b q => .inl (kk b q)
   rcases ld with ⟨rfl,nn,m2,hm2,hw⟩ | ⟨rfl,c',nn,hl,o,eo,q⟩
   ·refine .inl ⟨rfl,nn,_,hm',?_⟩
    have hz:z ∉ ns:=fun q => by
     obtain ⟨t,htl,hte⟩:=List.getElem_of_mem q
     have hi:is[t]? = some (is[t]'(by lia)):=List.getElem?_eq_getElem (by lia)
     have hg:=h3 t _ z hi (by rw [List.getElem?_eq_getElem htl,hte])
     have:=f.nd _ _ _ _ _ hg hj
     exact hjm (by rw [<- this]; exact List.getElem_mem _)
    rw [bindN_other hz,Ns.uniq hm hm2 z]; exact hw
   ·exact .inr ⟨rfl,c',nn,hl,o,e c' o (fun q => (f.cel z c' hl).2.2 (List.mem_singleton.mp q)) eo,q⟩
 ·by_cases hjm:j ∈ is
  ·exact if_pos hjm
  ·have:O' j = O j:=if_neg hjm
   rw [this]; exact r.out j hj
 ·by_cases hjm:j ∈ is
  ·have:O' j = []:=if_pos hjm
   rw [this]; exact List.nodup_nil
  ·have:O' j = O j:=if_neg hjm
   rw [this]; exact r.ndp j
theorem IterOk.fr {I:Addr} {items:List PyData} {H H':Addr -> Prop} {i:Nat} (x:IterOk C H I items i h) (k:∀ b o,(b = I \/ ¬ H b) -> h.get? b = some o -> h'.get? b = some o) (k2:∀ b,H' b -> H b \/ h.get? b = none) (hI:H' I):IterOk C H' I items i h':=by
 obtain ⟨⟨fp,P,St,W,st,hf,hp,hl⟩,hh⟩:=x
 refine ⟨⟨fp,P,St,W,?_,?_,?_,hl⟩,hI⟩
 ·refine (W { } rfl).frame _ _ _ st fun b hb o e => k b o ?_ e
  rcases hf b hb with rfl | ⟨q,_⟩
  ·exact .inl rfl
  ·exact .inr q
 ·intro b hb
  rcases hf b hb with q | ⟨q,o,e⟩
  ·exact .inl q
  ·refine .inr ⟨fun m => ?_,o,k b o (.inr q) e⟩
   rcases k2 b m with z | z
   ·exact q z
   ·rw [e] at z; cases z
 ·intro j v hj q
  refine xEA (hp j v hj q) fun d e r => ?_
  exact ⟨d,e,r.map (fun a o e n m => by
   rcases k2 a m with z | z
   ·exact n z
   ·rw [e] at z; cases z) fun a o n e => k a o (.inr n) e⟩
end
section
variable {C:Cx} {F:Str -> List RV -> Option PyData} {n:Nat}
theorem b_app (sd:∀ e,Snd C F n e) {i:Nat} {e:E} {q:Bk} (iq:SndB C F n q):SndB C F n (.app i e q):=by
 intro lam Γ env H0 B h0 xs σ σ' fl A O s Q Ex f ao hx hev r k
 apply bApp_elim (xs:=xs) hx; intro z1 z2 z3 z4 z5 z6 z7 qs hx
 ·refine obind hev fun d ed hev => ?_
  refine obind hev fun σ1 e1 hev => ?_
  unfold onOwn at e1
  split at e1
  ·rename_i l hs
   simp only [Option.bind_some] at e1
   obtain ⟨hlen,rfl⟩:=ite_some e1
   refine ba5 hx fun hn hm hl hv hq => ?_
   rw [beq_iff_eq] at hm; subst hm
   refine xEAAA (nameOk_inv hn) fun kd h1 h2 h3 h4 => ?_
   have hsl:=r.sl i _ _ h1
   rw [hs] at hsl
   refine xEEEAAAA (hsl) fun a vs O' ld la is hb hO => ?_
   refine wpAny_execs_cons (wpAny_Expr ?_ (by unfold interactive; rw [f.kind]; rfl) rfl)
   refine meth_call (T:="list") (id:="list.append") rfl (fun z hz => ?_) (show 1 < 29 by decide) hl PySem.F.plainAttrs_list PySem.F.slot_list_append PySem.F.type_list_append (load_loads f h1 h4 ld ⟨la.isList.typeIs,fun b e => ?_,?_⟩)
   ·rw [notStar hv] at hz
    rw [List.mem_singleton.mp hz]
   ·cases e
    obtain ⟨nn,e⟩:=la
    exact ⟨_,e,rfl⟩
   ·rw [notStar hv]
    refine PySem.Calls.spliced_cons ((sd e).v hv ed (r.here f ao) fun va h' tk ke g ra => PySem.Calls.spliced_nil ?_)
    have r1:=r.step f ke g
    have hsl1:=r1.sl i _ _ h1
    have naT:=(r.own i a (by rw [hO]; exact List.mem_cons_self)).1
    have la1:=PList.ex la ke naT
    have hsz:vs.size = l.length:=by have:=is.length; rwa [Array.length_toList] at this
    have hb':big = 1000000:=rfl
    have hb2:sizeLine = 16777216:=rfl
    refine wpAny_list_append_plain la1 (fun h2 la2 sb => ?_) (by lia)
    have e2:EX [a] h' h2:=same_ex sb
    have m0:a ∈ O i:=by rw [hO]; exact List.mem_cons_self
    have nd:=r.ndp i
    rw [hO,List.nodup_cons] at nd
    have oa:∀ b ∈ [a],HC B O b:=fun b m => by rw [List.mem_singleton.mp m]; exact .inr ⟨i,m0⟩
    refine iq f ao hq hev ((r1.nohide f).chg f (N:=[]) (L:=a :: O') h1 m0 e2 (PList.live la2) (by rw [<- hO]; exact r.ndp i) (fun b m => .inr (by rw [hO]; exact m)) no_mem ⟨a,vs.push va,O',Loads.keep f (r.own i a m0).2.2.2 e2 (ld.ex ke),la2,?_,hlen,rfl⟩) (k.after ((Fr.T ke).chg (i:=i) (N:=[]) m0 e2 (fun b m => .inr (by rw [hO]; exact m)) no_mem))
    rw [Array.toList_push]
    have:=(((is.ex ke (fun b m => .inl (f.tB b m)) (fun b m => (r.own i b (by rw [hO]; exact List.mem_cons_of_mem _ m)).1)).snoc (v:=va) (y:=.fz d) (O1:=[]) ⟨ra,rfl⟩).ex e2 oa (fun b m q => nd.1 (by rw [<- List.mem_singleton.mp q,<- List.append_nil O']; exact m))).mapH (H':=HC B (upd O i (a :: O'))) fun b m => .inl ((hc_upd b m).elim id fun q => .inr ⟨i,by rw [hO]; exact q⟩)
    rwa [List.append_nil] at this
  ·cases e1
theorem b_unp (sd:∀ e,Snd C F n e) {is:List Nat} {e:E} {q:Bk} (iq:SndB C F n q):SndB C F n (.unp is e q):=by
 intro lam Γ env H0 B h0 xs σ σ' fl A O s Q Ex f ao hx hev r k
 apply bUnp_elim (xs:=xs) hx; intro t v pos qs hx
 ·refine obind hev fun d ed hev => ?_
  refine obind hev fun tg et hev => ?_
  refine ba5 hx fun ht htg hnt hv hq => ?_
  replace htg:=tgtOk_inv htg
  obtain ⟨ns,hns,htg⟩:=htg
  ·obtain ⟨i1,i2,i3⟩:=isTgt_inv htg
   obtain ⟨elts,kk,tp,rfl⟩:=tuple_of (eq_of_beq ht)
   refine wpAny_execs_cons (Assign_Tuple ((sd e).v hv ed (r.here f ao) fun va h' tk ke g ra => ?_) (nt1 hnt) (nt2 hnt))
   have r1:=r.step f ke g
   obtain ⟨m,hm⟩:=r1.ns
   have locOf:∀ x ∈ ns,env.kindOf x = some .local:=fun x hx => by
    obtain ⟨t,htl,hte⟩:=List.getElem_of_mem hx
    have hi:is[t]? = some (is[t]'(by lia)):=List.getElem?_eq_getElem (by lia)
    have:=i3 t _ x hi (by rw [List.getElem?_eq_getElem htl,hte])
    exact (f.kd _ _ _ this).1
   rw [i1] at et
   refine op_assign (H:=HC B O) (s:={ s with heap:=h',toks:=tk }) ao.h hns et ra f.kind locOf hm fun ws h2 tk2 hwl hw htl ns2 ex2 => ?_
   obtain ⟨O',r2,_,fr2⟩:=r1.binds f htg hm ns2 ex2 (fun t rv ht => by
    refine xEAEA (hw t rv ht) fun w hw1 y r3 rw => ?_
    obtain rfl:=r3
    exact ⟨w,hw1,rw⟩) htl
   exact iq f ao hq hev r2 (k.after ((Fr.T ke).trans fr2))
theorem b_asrtN (K:CxOk C) {i:Nat} {q:Bk} (iq:SndB C F n q):SndB C F n (.asrtN i q):=by
 intro lam Γ env H0 B h0 xs σ σ' fl A O s Q Ex f ao hx hev r k
 apply bAsN_elim (xs:=xs) hx; intro z1 z2 z3 z4 z5 z6 z7 z8 z9 z10 qs hx
 ·replace hev:(if lstSl (getSl σ i) = true then evS F q σ else none) = some (fl,σ'):=hev
  split at hev
  ·rename_i hs0
   obtain ⟨l,hs⟩:=lstSl_inv hs0
   refine ba6 hx fun h1 h2 h3 h4 h5 hq => ?_
   rw [beq_iff_eq] at h1 h4; subst h1 h4
   have hr:=r.here f ao
   have hrv:getRV (rvs σ) i = .d (.list l):=by rw [getRV_rvs,hs]; rfl
   refine wpAny_execs_cons (wpAny_Assert_holds (wpAny_isTrue_Not (isTrue_plain ?_)))
   refine wpAny_Call_NameR (load_bui K h2 hr (by decide) (by decide) (v:=.builtin "isinstance") rfl ?_)
   refine PySem.Calls.callWith_builtin rfl (PySem.Calls.evalArgs_plain (PySem.Calls.spliced_cons ?_))
   refine load_var h3 hr (by rw [hrv]; exact fun h => by cases h) fun v rv => ?_
   rw [hrv] at rv
   refine xEEAAA (Rd.list_inv rv) fun a vs r2 _ la _ => ?_
   obtain rfl:=r2
   refine PySem.Calls.spliced_cons ?_
   refine load_bui K h5 hr (by decide) (by decide) (v:=.type "str") rfl (PySem.Calls.spliced_nil ?_)
   refine xEAA (la) fun o eo hc _ => ?_
   refine call_isinstance (isinstance_false_list (by decide +kernel) PySem.F.isi_meta_str PySem.F.sub_list_str) ⟨⟨o,eo,hc⟩,?_⟩
   refine op_truthy (H:=HC B O) (.bool false) fun tk => ⟨rfl,?_⟩
   exact iq f ao hq hev r (k.after (tk:=tk) Fr.refl)
  ·cases hev
end
noncomputable def Bump {α:Type} (t:Sem α):Prop:=∀ (M:Model) (Γ:Ctx) (Q:α -> Pos -> Shared -> Prop) (E:Value -> Pos -> Shared -> Prop) (p:Pos) (s:Shared),Sem.wp M Γ t Q E p s -> Sem.wp M Γ t (fun a p' s' => 1 <= s'.toks /\ Q a p' s') E p s
theorem Bump.left {α β:Type} {a:Sem α} {f:α -> Sem β} (h:Bump a):Bump (a >>= f):=fun M Γ Q E p s w => by
 rw [Sem.wp_bind'] at w ⊢
 exact Sem.wp_mono M Γ a (fun v p' s' q => Sem.wp_mono M Γ (f v) (fun _ _ _ q => q) (fun _ _ _ q => q.2) p' s' (Sem.wp_toks M Γ 1 (f v) Q E p' s' q.1 q.2)) (fun _ _ _ q => q) p s (h M Γ _ E p s w)
theorem Bump.right {α β:Type} {a:Sem α} {f:α -> Sem β} (h:∀ v,Bump (f v)):Bump (a >>= f):=fun M Γ Q E p s w => by
 rw [Sem.wp_bind'] at w ⊢
 exact Sem.wp_mono M Γ a (fun v p' s' q => h v M Γ Q E p' s' q) (fun _ _ _ q => q) p s w
theorem Bump.const {l:List Value} {j:Int}:Bump (holding l (mkInt j)):=fun M Γ Q E p s w => by
 rw [Sem.wp_holding] at w ⊢
 exact ⟨Nat.le_add_left 1 _,w⟩
theorem bump_cond {M:Model} {A:Around} {env:Env} {x:Str} {p0 p1 pos:Pos} {j:Int} {k:Nat} {rest:List PySem.Expr} {Q:Bool -> Shared -> Prop} {E:Value -> Shared -> Prop} {s:Shared}
  (h:wpAny M A (allTrue .And (.Compare (.Name x p0) [.Eq] [.Constant (.int j) k p1] pos :: rest) env) Q E s):wpAny M A (allTrue .And (.Compare (.Name x p0) [.Eq] [.Constant (.int j) k p1] pos :: rest) env) (fun b s' => 1 <= s'.toks /\ Q b s') E s:=by
 have b:Bump (allTrue .And (.Compare (.Name x p0) [.Eq] [.Constant (.int j) k p1] pos :: rest) env):=by
  rw [arm_allTrue_cons]
  exact .left (Bump.right (a:=eval (.Name x p0) env) fun l => Bump.left Bump.const)
 exact fun Γ p hΓ => b M Γ _ _ p s (h Γ p hΓ)
section
variable {C:Cx} {F:Str -> List RV -> Option PyData} {n:Nat} {H:Addr -> Prop} {A:Around} {s:Shared} {Ex:Value -> Shared -> Prop}
noncomputable abbrev nilO:Obj:={ cls:=.type "list",data:=.seq ([]:List Value).toArray }
theorem eval_nil {env:Env} {p:Pos} {Q:Value -> Shared -> Prop} (h:Q (.ref s.heap.objs.size) { s with heap:=s.heap.push nilO }):wpAny (model C.prog C.w) A (eval (.List [] p) env) Q Ex s:=
 List_ (PySem.Calls.spliced_nil (wpAny_newList h))
theorem SR.B {Γ:List (Str × NameKind)} {env:Env} {B B':Addr -> Prop} {h0 h:Heap} {σ:List Sl} {O:Nat -> List Addr} (r:SR C Γ env B h0 h σ O) (e:∀ a,B a ↔ B' a):SR C Γ env B' h0 h σ O:=by
 rw [show B' = B from funext fun a => propext (e a).symm]; exact r
theorem hide2 {B:Addr -> Prop} {a b c:Addr}:HideL (HideL B [b]) [a] c ↔ HideL B [a,b] c:=by
 constructor
 ·rintro ((m | m) | m)
  ·exact .inl m
  ·exact .inr (List.mem_cons_of_mem _ m)
  ·exact .inr (by rw [List.mem_singleton.mp m]; exact List.mem_cons_self)
 ·rintro (m | m)
  ·exact .inl (.inl m)
  ·rcases List.mem_cons.mp m with rfl | m
   ·exact .inr List.mem_cons_self
   ·exact .inl (.inr m)
theorem b_own1 {i:Nat} {q:Bk} (iq:SndB C F n q):SndB C F n (.own1 i q):=by
 intro lam Γ env H0 B h0 xs σ σ' fl A O s Q Ex f ao hx hev r k
 apply bOwn1_elim (xs:=xs) hx; intro x px p1 p2 p qs hx
 refine ba2 hx fun hn hq => ?_
 refine xEAAA (nameOk_inv hn) fun kd h1 h2 h3 h4 => ?_
 refine wpAny_execs_cons (wpAny_Assign_Name (List_ ?_) rfl)
 rw [backTo_self (fun z m => by rw [List.mem_singleton.mp m])]
 refine PySem.Calls.spliced_cons (x:=eval (.List [] p1) env) (rest:=[]) (eval_nil (PySem.Calls.spliced_nil (wpAny_newList ?_)))
 refine xAA (r.alloc f nilO rfl) fun r1 ha1 _ => ?_
 have f1:FE C lam Γ env H0 (HideL B [s.heap.objs.size]) h0:=f.hide fun a m => by rw [List.mem_singleton.mp m]; exact ha1.2.2.1
 generalize hb:s.heap.objs.size = b at *
 have lb:(s.heap.push nilO).PlainList b #[]:=hb ▸ ⟨_,Heap.get?_push_size _ rfl⟩
 have nb:s.heap.get? b = none:=Heap.get?_none_of_le (Nat.le_of_eq hb)
 have x1:Ext s.heap (s.heap.push nilO):=Ext.push _
 generalize hh:s.heap.push nilO = h at *
 refine xAA (r1.alloc f1 { cls:=.type "list",data:=.seq [Value.ref b].toArray } rfl) fun r2 ha2 _ => ?_
 have la:(h.push { cls:=.type "list",data:=.seq [Value.ref b].toArray }).PlainList h.objs.size #[.ref b]:=⟨_,Heap.get?_push_size _ rfl⟩
 have x2:Ext h (h.push { cls:=.type "list",data:=.seq [Value.ref b].toArray }):=Ext.push _
 have na:s.heap.get? h.objs.size = none:=EX.none_of (X:=[]) (Ext.ex x1) List.not_mem_nil (Heap.get?_none_of_le (Nat.le_refl _))
 have hab:h.objs.size ≠ b:=fun e => ha2.2.2.2 (.inr (by rw [e]; exact List.mem_cons_self))
 refine put_store f (s:={ s with heap:=_,toks:=s.toks }) r2 h1 fun h'' tk' p' => ?_
 have fresh:∀ c ∈ [h.objs.size,b],c ∉ C.T /\ C.hb.get? c = none /\ h0.get? c = none /\ ¬ B c:=fun c m => by
  rcases List.mem_cons.mp m with rfl | m
  ·exact ⟨ha2.1,ha2.2.1,ha2.2.2.1,fun q => ha2.2.2.2 (.inl q)⟩
  ·rw [List.mem_singleton.mp m]; exact ha1
 refine iq f ao hq hev ((r2.B fun _ => hide2).putOwn f h1 p' (.cons (fun c m e => hab (e.trans (List.mem_singleton.mp m))) (.cons no_mem .nil)) fresh la (items:=[.ow []]) ⟨[b],[],⟨b,#[],rfl,?_,.nil,Nat.zero_le _,rfl⟩,rfl,rfl⟩ (show 1 <= big by decide)) (k.after ((Fr.T (Ext.ex (Ext.trans x1 x2))).put p' fun c m => ?_))
 ·exact PList.ex lb (X:=[]) (Ext.ex x2) List.not_mem_nil
 ·rcases List.mem_cons.mp m with rfl | m
  ·exact na
  ·rw [List.mem_singleton.mp m]; exact nb
theorem fresh_val (sd:∀ e,Snd C F n e) {lam:Option Pos} {Γ:List (Str × NameKind)} {env:Env} {H0 B:Addr -> Prop} {h0:Heap} {σ:List Sl} {O:Nat -> List Addr} {Q:Value -> Shared -> Prop} {e:E} {y:PySem.Expr} {xs:List PyData} (f:FE C lam Γ env H0 B h0) (ao:AOk A (n + 1)) (r:SR C Γ env B h0 s.heap σ O) (hy:freshE y = true) (hv:isX C.G lam e false Γ env.scope y = true) (ed:evE F e (rvs σ) = some (.list xs))
  (k:∀ acc vs h tk,EX C.T s.heap h -> s.heap.get? acc = none -> SR C Γ env (HideL B [acc]) h0 h σ O -> (acc ∉ C.T /\ C.hb.get? acc = none /\ h0.get? acc = none /\ ¬ B acc) -> h.PlainList acc vs -> Rds (HC (HideL B [acc]) O) h vs.toList xs -> xs.length <= big -> Q (.ref acc) { s with heap:=h,toks:=tk }):wpAny (model C.prog C.w) A (eval y env) Q Ex s:=by
 by_cases hc:y.ctorIdx = 8
 ·refine xEEEE (isX_LC hc hv) fun m it c e' r4 => ?_
  obtain rfl:=r4
  apply isX_comp (x:=y) hv; intro elt tgt iter ifs scope p ns htg hk hnd hit hsc hlk hifs helt
  subst hk
  refine obind ed fun items hev1 hev => ?_
  refine xEA (Option.map_eq_some_iff.mp hev) fun tot hcd r2 => ?_
  cases r2
  refine obind hev1 fun di ei hitems => ?_
  rw [eval_ListComp]
  refine comp_core (sd it) (sd c) (sd e') htg hnd hit hsc hlk hifs helt ei hitems hcd (r.here f ao) fun H2 acc L h tk vs ex sub mo gg oA oL nA nL dAL la ra ns hb => ?_
  obtain ⟨m,hm⟩:=ns
  refine ⟨m,hm,fun h' sb => ?_⟩
  have exL:EX [L] h h':=same_ex sb
  have nHA:¬ HC B O acc:=fun q => by obtain ⟨o,eo⟩:=r.gg.live acc q; rw [nA] at eo; cases eo
  have nHL:¬ HC B O L:=fun q => by obtain ⟨o,eo⟩:=r.gg.live L q; rw [nL] at eo; cases eo
  have h0A:h0.get? acc = none:=EX.none_of r.ex oA.2.1 nA
  have h0L:h0.get? L = none:=EX.none_of r.ex oL.2.1 nL
  have f1:FE C lam Γ env H0 (HideL B [acc]) h0:=f.hide fun a q => by rw [List.mem_singleton.mp q]; exact h0A
  have subA:∀ b,HC (HideL (HideL B [acc]) [L]) O b -> H2 b:=fun b q => by
   rcases q with ((q | q) | q) | q
   ·exact sub b (.inl q)
   ·rw [List.mem_singleton.mp q]; exact oA.1
   ·rw [List.mem_singleton.mp q]; exact oL.1
   ·exact sub b (.inr q)
  have tA:∀ a ∈ C.T,HideL (HideL B [acc]) [L] a:=fun a q => .inl (.inl (f.tB a q))
  have rA:SR C Γ env (HideL (HideL B [acc]) [L]) h0 h σ O:=r.grow f (fun a q => by
   rcases q with (q | q) | q
   ·exact .inl q
   ·rw [List.mem_singleton.mp q]; exact .inr ⟨nA,fun j q => nHA (.inr ⟨j,q⟩)⟩
   ·rw [List.mem_singleton.mp q]; exact .inr ⟨nL,fun j q => nHL (.inr ⟨j,q⟩)⟩) ex (gg.less subA fun b q => .inl (tA b q)) tA
  have rB:=rA.unhideX f1 exL (fun q => q.elim (fun q => nHL (.inl q)) fun q => dAL (List.mem_singleton.mp q).symm) oL.2.1 oL.2.2 h0L
  refine k acc vs h' tk (ex.fresh nL exL) nA rB ⟨oA.2.1,oA.2.2,h0A,fun q => nHA (.inl q)⟩ (PList.ex la exL fun m => dAL (List.mem_singleton.mp m)) ((ra.ex exL oL.one).less fun b q => subA b (q.imp .inl id)) hb
 ·have hy':vNil y = true:=by
   unfold freshE at hy
   rw [Bool.or_eq_true,beq_iff_eq] at hy
   exact hy.resolve_left hc
  revert hv
  refine vNil_elim (motive:=fun y => isX C.G lam e false Γ env.scope y = true -> wpAny (model C.prog C.w) A (eval y env) Q Ex s) hy' fun p hv => ?_
  obtain ⟨es,rfl⟩:=isX_Lst hv
  have hv3:(isXs C.G lam es false Γ env.scope [] && decide (0 <= 1000)) = true:=hv
  refine xEA (Option.map_eq_some_iff.mp ed) fun ds el e => ?_
  cases e
  have hl:=isXs_len (Bool.and_eq_true_iff.mp hv3).1 el
  have e0:xs = []:=List.eq_nil_of_length_eq_zero hl
  subst e0
  refine xAA (r.alloc f nilO rfl) fun r1 ha1 _ => ?_
  exact eval_nil (k _ #[] _ s.toks (Ext.ex (Ext.push _)) (Heap.get?_none_of_le (Nat.le_refl _)) r1 ha1 ⟨_,Heap.get?_push_size _ rfl⟩ .nil (Nat.zero_le _))
theorem onOwn_inv {σ σ1:List Sl} {i:Nat} {g:List Itm -> Option (List Itm)} (h:onOwn σ i g = some σ1):∃ l l',getSl σ i = .own l /\ g l = some l' /\ l'.length <= big /\ σ1 = σ.set i (.own l'):=by
 unfold onOwn at h
 cases hs:getSl σ i with
 | rv r => rw [hs] at h; cases h
 | own l =>
  rw [hs] at h
  refine obind h fun l' e1 e2 => ?_
  obtain ⟨hl,rfl⟩:=ite_some e2
  exact ⟨l,l',rfl,e1,hl,rfl⟩
theorem isLst_inv {d:PyData} {l:List PyData} (h:isLst d = some l):d = .list l:=by
 cases d <;> first | (cases h; rfl) | (cases h; done)
theorem hc_sub {B:Addr -> Prop} {O:Nat -> List Addr} {N L:List Addr} {i:Nat} (hs:∀ b ∈ L,b ∈ N \/ b ∈ O i) (b:Addr) (m:HC B (upd O i L) b):HC (HideL B N) O b:=
 (hc_upd b m).elim (fun q => q.imp .inl id) fun q => (hs b q).elim (fun q => .inl (.inr q)) fun q => .inr ⟨i,q⟩
theorem b_appo (sd:∀ e,Snd C F n e) {i:Nat} {e:E} {q:Bk} (iq:SndB C F n q):SndB C F n (.appo i e q):=by
 intro lam Γ env H0 B h0 xs σ σ' fl A O s Q Ex f ao hx hev r k
 apply bApp_elim (xs:=xs) hx; intro x px m ap y cp p qs hx
 refine obind hev fun ys ed0 hev => ?_
 refine obind ed0 fun d ed hl => ?_
 obtain rfl:=isLst_inv hl
 refine obind hev fun σ1 e1 hev => ?_
 refine xEEAAA (onOwn_inv e1) fun l l' hs e2 hlen r2 => ?_
 obtain rfl:=r2
 cases e2
 refine ba6 hx fun hn hm hl2 hfr hv hq => ?_
 rw [beq_iff_eq] at hm; subst hm
 refine xEAAA (nameOk_inv hn) fun kd h1 h2 h3 h4 => ?_
 have hsl:=r.sl i _ _ h1
 rw [hs] at hsl
 refine xEEEAAAA (hsl) fun a vs O' ld la is hb hO => ?_
 refine wpAny_execs_cons (wpAny_Expr ?_ (by unfold interactive; rw [f.kind]; rfl) rfl)
 refine meth_call (T:="list") (id:="list.append") rfl (fun z hz => ?_) (show 1 < 29 by decide) hl2 PySem.F.plainAttrs_list PySem.F.slot_list_append PySem.F.type_list_append (load_loads f h1 h4 ld ⟨la.isList.typeIs,fun b e => ?_,?_⟩)
 ·rw [notStar hv] at hz
  rw [List.mem_singleton.mp hz]
 ·cases e
  obtain ⟨nn,e⟩:=la
  exact ⟨_,e,rfl⟩
 ·rw [notStar hv]
  refine PySem.Calls.spliced_cons (fresh_val sd f ao r hfr hv ed fun acc ws h' tk ke nA r1 hac lacc racc hbx => PySem.Calls.spliced_nil ?_)
  have m0:a ∈ O i:=by rw [hO]; exact List.mem_cons_self
  have own0:=r.own i a m0
  have la1:=PList.ex la ke own0.1
  have hsz:vs.size = l.length:=by have:=is.length; rwa [Array.length_toList] at this
  refine wpAny_list_append_plain la1 (fun h2 la2 sb => ?_) (Nat.le_trans (Nat.le_of_eq hsz) (Nat.le_trans hb (by decide)))
  have e2:EX [a] h' h2:=same_ex sb
  have nd:=r.ndp i
  rw [hO,List.nodup_cons] at nd
  have nacc:∀ b ∈ O i,b ≠ acc:=fun b m e => (r1.own i b m).2.2.2 (.inr (by rw [e]; exact List.mem_cons_self))
  have hL:∀ b ∈ a :: (O' ++ [acc]),b ∈ [acc] \/ b ∈ O i:=fun b m => by
   rcases List.mem_cons.mp m with rfl | m
   ·exact .inr m0
   ·exact (List.mem_append.mp m).elim (fun m => .inr (by rw [hO]; exact List.mem_cons_of_mem _ m)) .inl
  have nin:∀ b ∈ O' ++ [acc],b ≠ a:=fun b m e => by
   rcases List.mem_append.mp m with m | m
   ·exact nd.1 (e ▸ m)
   ·exact nacc a m0 (e.symm.trans (List.mem_singleton.mp m))
  have hnd:(a :: (O' ++ [acc])).Nodup:=List.nodup_cons.mpr ⟨fun m => nin a m rfl,List.nodup_append.mpr ⟨nd.2,.cons no_mem .nil,fun b m c m' e => nacc b (by rw [hO]; exact List.mem_cons_of_mem _ m) (e.trans (List.mem_singleton.mp m'))⟩⟩
  have new:∀ b ∈ [acc],b ∉ C.T /\ C.hb.get? b = none /\ h0.get? b = none /\ ¬ B b:=fun b m => by rw [List.mem_singleton.mp m]; exact hac
  refine iq f ao hq hev (r1.chg f (N:=[acc]) (L:=a :: (O' ++ [acc])) h1 m0 e2 (PList.live la2) hnd hL new ⟨a,vs.push (.ref acc),O' ++ [acc],Loads.keep f own0.2.2.2 e2 (ld.ex ke),la2,?_,hlen,rfl⟩) (k.after ((Fr.T ke).chg (i:=i) m0 e2 hL fun b m => by rw [List.mem_singleton.mp m]; exact nA))
  rw [Array.toList_push]
  have is1:=(is.mapH (H':=HC (HideL B [acc]) O) fun b m => m.elim (fun m => m.elim (fun m => .inl (.inl m)) fun m => .inr (by rw [List.mem_singleton.mp m]; exact nA)) fun m => .inl (.inr m)).ex ke (fun b m => .inl (.inl (f.tB b m))) fun b m => (r.own i b (by rw [hO]; exact List.mem_cons_of_mem _ m)).1
  refine ((is1.snoc (v:=.ref acc) (y:=.ow ys) (O1:=[acc]) ⟨acc,ws,rfl,lacc,racc,hbx,rfl⟩).ex e2 (fun b m => by rw [List.mem_singleton.mp m]; exact .inr ⟨i,m0⟩) fun b m q => nin b m (List.mem_singleton.mp q)).mapH fun b m => .inl (hc_sub hL b m)
theorem appOw_inv {d:PyData} {x y:Itm} (h:appOw d x = some y):∃ ds,x = .ow ds /\ ds.length < big /\ y = .ow (ds ++ [d]):=by
 cases x with
 | fz _ => cases h
 | ow ds => obtain ⟨hl,rfl⟩:=ite_some h; exact ⟨ds,rfl,hl,rfl⟩
theorem appLast_inv {d:PyData} {l l':List Itm} (h:appLast d l = some l'):∃ l0 ds,l = l0 ++ [.ow ds] /\ ds.length < big /\ l' = l0 ++ [.ow (ds ++ [d])]:=by
 induction l generalizing l' with
 | nil => cases h
 | cons x r ih =>
  cases r with
  | nil =>
   refine xEA (Option.map_eq_some_iff.mp h) fun y e1 e2 => ?_
   refine xEAA (appOw_inv e1) fun ds e3 e4 e5 => ?_
   exact ⟨[],ds,by rw [e3]; rfl,e4,by rw [<- e2,e5]; rfl⟩
  | cons z r =>
   refine xEA (Option.map_eq_some_iff.mp h) fun y e1 e2 => ?_
   refine xEEAA (ih e1) fun l0 ds e3 e4 e5 => ?_
   exact ⟨x :: l0,ds,by rw [e3]; rfl,e4,by rw [<- e2,e5]; rfl⟩
theorem ItmsR.last {h:Heap} {vs:List Value} {l0:List Itm} {y:Itm} {O:List Addr} (r:ItmsR H h vs (l0 ++ [y]) O):∃ vs0 v O1 O2,vs = vs0 ++ [v] /\ ItmsR H h vs0 l0 O1 /\ ItmR H h v y O2 /\ O = O1 ++ O2:=by
 induction l0 generalizing vs O with
 | nil => cases vs with
  | nil => exact r.elim
  | cons v vs => cases vs with
   | nil => exact xEEAA r fun O1 O2 r1 r2 e => ⟨[],v,[],O1,rfl,rfl,r1,by rw [e,show O2 = [] from r2]; exact List.append_nil _⟩
   | cons _ _ => exact xEEAA r fun O1 O2 r1 r2 e => r2.elim
 | cons x l0 ih => cases vs with
  | nil => exact r.elim
  | cons v vs =>
   refine xEEAA r fun O1 O2 r1 r2 e => ?_
   refine xEEEEAAA (ih r2) fun vs0 w P1 P2 e1 r3 r4 e2 => ?_
   exact ⟨v :: vs0,w,O1 ++ P1,P2,by rw [e1]; rfl,⟨O1,P1,r1,r3,rfl⟩,r4,by rw [e,e2,List.append_assoc]⟩
theorem b_appl (sd:∀ e,Snd C F n e) {i:Nat} {e:E} {q:Bk} (iq:SndB C F n q):SndB C F n (.appl i e q):=by
 intro lam Γ env H0 B h0 xs σ σ' fl A O s Q Ex f ao hx hev r k
 apply bAppl_elim (xs:=xs) hx; intro x px j p1 m ap y cp p qs hx
 refine obind hev fun d ed hev => ?_
 refine obind hev fun σ1 e1 hev => ?_
 refine xEEAAA (onOwn_inv e1) fun l l' hs e2 hlen r2 => ?_
 obtain rfl:=r2
 refine xEEAA (appLast_inv e2) fun l0 ds r3 hds r4 => ?_
 obtain rfl:=r3
 obtain rfl:=r4
 refine ba7 hx fun hn hm hl2 hsl hj hv hq => ?_
 rw [beq_iff_eq] at hm; subst hm
 have hsl':isSl j = false:=by rw [<- Bool.not_eq_true']; exact hsl
 refine xEAAA (nameOk_inv hn) fun kd h1 h2 h3 h4 => ?_
 have hsl:=r.sl i _ _ h1
 rw [hs] at hsl
 refine xEEEAAAA (hsl) fun a vs O' ld la is hb hO => ?_
 refine xEEEEAAA is.last fun vs0 v O1 O2 hvs i0 ib r5 => ?_
 refine xEEAAAA ib fun b ws r6 lb rs hbd r7 => ?_
 obtain rfl:=r6
 obtain rfl:=r7
 obtain rfl:=r5
 have m0:a ∈ O i:=by rw [hO]; exact List.mem_cons_self
 have mb:b ∈ O i:=by rw [hO]; exact List.mem_cons_of_mem _ (List.mem_append_right _ List.mem_cons_self)
 have own0:=r.own i a m0
 have ownb:=r.own i b mb
 have nd:=r.ndp i
 rw [hO,List.nodup_cons] at nd
 have hab:a ≠ b:=fun e => nd.1 (List.mem_append_right _ (by rw [e]; exact List.mem_cons_self))
 have hat:vs[((-1:Int) + vs.size).toNat]? = some (.ref b):=by
  have h5:vs.size = vs0.length + 1:=by rw [<- Array.length_toList,hvs,List.length_append]; rfl
  rw [<- Array.getElem?_toList,hvs,h5,show ((-1:Int) + ((vs0.length + 1:Nat):Int)).toNat = vs0.length by (simp +arith),List.getElem?_append_right (Nat.le_refl _),Nat.sub_self]; rfl
 have hpos:-(vs.size:Int) <= -1:=by
  have h5:vs.size = vs0.length + 1:=by rw [<- Array.length_toList,hvs,List.length_append]; rfl
  lia
 refine wpAny_execs_cons (wpAny_Expr ?_ (by unfold interactive; rw [f.kind]; rfl) rfl)
 refine meth_call (T:="list") (id:="list.append") rfl (fun z hz => ?_) (show 1 < 29 by decide) hl2 PySem.F.plainAttrs_list PySem.F.slot_list_append PySem.F.type_list_append (Subscript_ (load_loads f h1 h4 ld ((sd (.neg (.int 1))).v hj rfl (r.here f ao) fun vi h' tk ke g ri => ?_)))
 ·rw [notStar hv] at hz
  rw [List.mem_singleton.mp hz]
 ·obtain ⟨t,rfl⟩:=ri.int_inv
  have la1:=PList.ex la ke own0.1
  have lb1:=PList.ex lb ke ownb.1
  refine tail_any (s:={ s with heap:=h',toks:=tk }) la1.isList.typeIs PySem.F.slot_list_getitem.lookup (wpAny_getItem_list_neg la1.isList (by decide) hpos (by decide) hat ⟨lb1.isList.typeIs,fun c e => ?_,?_⟩) (subscripted_idx hsl' _ _)
  ·cases e
   obtain ⟨nn,e⟩:=lb1
   exact ⟨_,e,rfl⟩
  ·rw [notStar hv]
   have r1:=r.step f ke g
   refine PySem.Calls.spliced_cons ((sd e).v hv ed (r1.here f ao) fun va h2 tk2 ke2 g2 ra => PySem.Calls.spliced_nil ?_)
   have r2:=r1.step f ke2 g2
   have ke3:=ke.trans ke2
   have hsz:ws.size = ds.length:=by have:=rs.length; rwa [Array.length_toList] at this
   refine wpAny_list_append_plain (PList.ex lb1 ke2 ownb.1) (fun h3 lb3 sb => ?_) (Nat.le_trans (Nat.le_of_eq hsz) (Nat.le_trans hbd (by decide)))
   have e3:EX [b] h2 h3:=same_ex sb
   have hL:∀ c ∈ a :: (O1 ++ [b]),c ∈ ([]:List Addr) \/ c ∈ O i:=fun c m => .inr (by rw [hO]; exact m)
   have one:∀ c ∈ [b],HC (HideL B []) O c:=fun c m => by rw [List.mem_singleton.mp m]; exact .inr ⟨i,mb⟩
   have tB:∀ c ∈ C.T,HC B O c:=fun c m => .inl (f.tB c m)
   refine iq f ao hq hev ((r2.nohide f).chg f (N:=[]) (L:=a :: (O1 ++ [b])) h1 mb e3 (PList.live lb3) (by rw [<- hO]; exact r.ndp i) hL no_mem ⟨a,vs,O1 ++ [b],Loads.keep f ownb.2.2.2 e3 (ld.ex ke3),PList.ex (PList.ex la ke3 own0.1) e3 (fun m => hab (List.mem_singleton.mp m)),?_,hlen,rfl⟩) (k.after ((Fr.T ke3).chg (i:=i) (N:=[]) mb e3 hL no_mem))
   have nb1:∀ c ∈ O1,c ≠ b:=fun c m e => (List.nodup_append.mp nd.2).2.2 c m b List.mem_cons_self e
   have inO:∀ c ∈ O1,c ∈ O i:=fun c m => by rw [hO]; exact List.mem_cons_of_mem _ (List.mem_append_left _ m)
   have kk:∀ c,HC (HideL B []) O c -> HC B O c \/ h2.get? c = none:=fun c m => .inl (m.imp (fun m => m.elim id fun q => by cases q) id)
   have i1:=((i0.ex ke3 tB fun c m => (r.own i c (inO c m)).1).mapH kk).ex e3 one fun c m q => nb1 c m (List.mem_singleton.mp q)
   rw [hvs]
   refine (i1.snoc (v:=.ref b) (y:=.ow (ds ++ [d])) (O1:=[b]) ⟨b,ws.push va,rfl,lb3,?_,by rw [List.length_append]; exact hds,rfl⟩).mapH fun c m => .inl (hc_sub hL c m)
   rw [Array.toList_push]
   exact (((rs.ex ke3 tB).more kk).append (.cons (ra.more kk) .nil)).ex e3 one
theorem SR.head {Γ:List (Str × NameKind)} {env:Env} {B:Addr -> Prop} {h0 h:Heap} {σ:List Sl} {O:Nat -> List Addr} {i:Nat} {x:Str} {k:NameKind} {ds:List PyData} {rest:List Itm} (r:SR C Γ env B h0 h σ O) (hi:Γ[i]? = some (x,k)) (hs:getSl σ i = .own (.ow ds :: rest)) :
  ∃ a b vs ws vs1 O1,Loads C.T env h x k (.ref a) /\ h.PlainList a vs /\ vs.toList = .ref b :: vs1 /\ h.PlainList b ws /\ Rds (HC B O) h ws.toList ds /\ ds.length <= big /\ ItmsR (HC B O) h vs1 rest O1 /\ rest.length + 1 <= big /\ O i = a :: b :: O1:=by
 have:=r.sl i x k hi
 rw [hs] at this
 refine xEEEAAAA this fun a vs O' ld la is hb hO => ?_
 revert is
 cases hv:vs.toList with
 | nil => exact fun is => is.elim
 | cons v vs1 =>
  intro is
  refine xEEAA is fun P1 P2 i1 i2 e => ?_
  refine xEEAAAA i1 fun b ws e1 lb rs hbd e2 => ?_
  obtain rfl:=e1
  exact ⟨a,b,vs,ws,vs1,P2,ld,la,hv,lb,rs,hbd,i2,hb,by rw [hO,e,e2]; rfl⟩
theorem at0 {vs:Array Value} {v:Value} {r:List Value} (h:vs.toList = v :: r):vs[(0:Int).toNat]? = some v:=by
 rw [<- Array.getElem?_toList,h]; rfl
theorem sub0 {lam:Option Pos} {Γ:List (Str × NameKind)} {env:Env} {H0 B:Addr -> Prop} {h0:Heap} {Q:Value -> Shared -> Prop} {i:Nat} {x:Str} {k:NameKind} {a b:Addr} {vs:Array Value} {vs1:List Value} (f:FE C lam Γ env H0 B h0) (hi:Γ[i]? = some (x,k)) (hd:(x == ("__debug__":Str)) = false) (ld:Loads C.T env s.heap x k (.ref a)) (la:s.heap.PlainList a vs) (hv:vs.toList = .ref b :: vs1) {px q1 p1:Pos} {i1:Nat}
  (q:∀ tk,Q (.ref b) { s with toks:=tk }):wpAny (model C.prog C.w) A (eval (.Subscript (.Name x px) (.Constant (.int 0) i1 p1) q1) env) Q Ex s:=
 Subscript_ (load_loads f hi hd ld (wpAny_Constant_int (tail_any (s:={ s with toks:=s.toks + 1 }) la.isList.typeIs PySem.F.slot_list_getitem.lookup (wpAny_getItem_list la.isList (by decide) (by decide) (at0 hv) (q _)) (subscripted_idx rfl _ _))))
theorem sub000 {lam:Option Pos} {Γ:List (Str × NameKind)} {env:Env} {H0 B:Addr -> Prop} {h0:Heap} {σ:List Sl} {O:Nat -> List Addr} {Q:Value -> Shared -> Prop} {i:Nat} {x:Str} {k:NameKind} {d z:PyData} {ds:List PyData} {rest:List Itm} {j:Int} {y:PySem.Expr} (f:FE C lam Γ env H0 B h0) (r:SR C Γ env B h0 s.heap σ O) (hi:Γ[i]? = some (x,k)) (hd:(x == ("__debug__":Str)) = false) (hs:getSl σ i = .own (.ow (d :: ds) :: rest)) (hy:v000 x j y = true) (hz:idxD d (.int j) = some z) (kd:KD C (HC B O) s Q z):wpAny (model C.prog C.w) A (eval y env) Q Ex s:=by
 refine v000_elim (motive:=fun y => wpAny (model C.prog C.w) A (eval y env) Q Ex s) hy fun px i1 p1 q1 i2 p2 q2 i3 p3 q3 => ?_
 obtain ⟨a,b,vs,ws,vs1,O1,ld,la,hv,lb,rs,_,_,_,hO⟩:=r.head hi hs
 refine Subscript_ (Subscript_ (sub0 f hi hd ld la hv fun tk => wpAny_Constant_int ?_))
 revert rs
 cases hw:ws.toList with
 | nil => exact fun rs => nomatch rs
 | cons w0 ws1 =>
  intro rs
  cases rs with
  | cons r0 rs =>
   exact tail_any (s:={ s with toks:=tk + 1 }) lb.isList.typeIs PySem.F.slot_list_getitem.lookup (wpAny_getItem_list lb.isList (by decide) (by decide) (at0 hw) (wpAny_Constant_int (op_idx (s:={ s with toks:=tk + 1 + 1 }) rfl hz r0 (.int _ _) r.gg (kd.after (EX.refl _))))) (subscripted_idx rfl _ _)
theorem preP_inv {s:Str} {d z:PyData} (h:preP s d = some z):∃ a v t,d = .tuple [a,v] /\ binD .Add (.str s) a = some t /\ z = .tuple [t,v]:=by
 refine xEA (tP_inv h) fun xs e h => ?_
 obtain rfl:=e
 cases xs with
 | nil => cases h
 | cons a r =>
  refine xEA (oneL_inv h) fun v e h => ?_
  obtain rfl:=e
  refine xEA (Option.map_eq_some_iff.mp h) fun t e1 e2 => ?_
  exact ⟨a,v,t,rfl,e1,e2.symm⟩
theorem preL_inv {s:Str} {l:List Itm} {xs:List PyData} (h:preL s l = some xs):∃ d ds rest z,l = .ow (d :: ds) :: rest /\ preP s d = some z /\ xs = .list (z :: ds) :: rest.map itmD:=by
 cases l with
 | nil => cases h
 | cons y rest =>
  refine xEA (Option.map_eq_some_iff.mp h) fun w e1 e2 => ?_
  cases y with
  | fz _ => cases e1
  | ow ds => cases ds with
   | nil => cases e1
   | cons d ds =>
    refine xEA (Option.map_eq_some_iff.mp e1) fun z e3 e4 => ?_
    exact ⟨d,ds,rest,z,rfl,e3,by rw [<- e2,<- e4]⟩
theorem ownP_inv {g:List Itm -> Option (List PyData)} {y:Sl} {xs:List PyData} (h:ownP g y = some xs):∃ l,y = .own l /\ g l = some xs:=by
 cases y with
 | rv _ => cases h
 | own l => exact ⟨l,rfl,h⟩
theorem b_set00 {i:Nat} {t:Str} {q:Bk} (iq:SndB C F n q):SndB C F n (.set00 i t q):=by
 intro lam Γ env H0 B h0 xs σ σ' fl A O s Q Ex f ao hx hev r k
 apply bSet00_elim (xs:=xs) hx; intro x px i1 p1 q1 i2 p2 q2 t' i4 p4 y1 p5 y2 kk p3 p qs hy1 hy2 hx
 refine obind hev fun ys e1 hev => ?_
 refine xEA (ownP_inv e1) fun l hs e1 => ?_
 refine xEEEEAA (preL_inv e1) fun d ds rest z e2 e3 e4 => ?_
 obtain rfl:=e2
 obtain rfl:=e4
 refine xEEEAA (preP_inv e3) fun a0 v0 t0 e5 e6 e7 => ?_
 obtain rfl:=e5
 obtain rfl:=e7
 refine ba5 hx fun hn ht hok hlt hq => ?_
 rw [beq_iff_eq] at ht; subst ht
 have okt:SOk t:=⟨hok,of_decide_eq_true hlt⟩
 refine xEAAA (nameOk_inv hn) fun kd h1 h2 h3 h4 => ?_
 refine wpAny_execs_cons (wpAny_Assign_Subscript (Tuple_ ?_) rfl)
 have hplain:∀ w ∈ starEach [.BinOp (.Constant (.str t) i4 p4) .Add y1 p5,y2] env,w.1 = false:=by
  rw [show starEach [.BinOp (.Constant (.str t) i4 p4) .Add y1 p5,y2] env = [(false,eval (.BinOp (.Constant (.str t) i4 p4) .Add y1 p5) env),(false,eval y2 env)] from v000_elim (motive:=fun y2 => starEach [.BinOp (.Constant (.str t) i4 p4) .Add y1 p5,y2] env = [(false,eval (.BinOp (.Constant (.str t) i4 p4) .Add y1 p5) env),(false,eval y2 env)]) hy2 fun _ _ _ _ _ _ _ _ _ _ => rfl]
  intro w m
  rcases List.mem_cons.mp m with rfl | m
  ·rfl
  ·rw [List.mem_singleton.mp m]
 rw [backTo_self hplain,show starEach [.BinOp (.Constant (.str t) i4 p4) .Add y1 p5,y2] env = [(false,eval (.BinOp (.Constant (.str t) i4 p4) .Add y1 p5) env),(false,eval y2 env)] from v000_elim (motive:=fun y2 => starEach [.BinOp (.Constant (.str t) i4 p4) .Add y1 p5,y2] env = [(false,eval (.BinOp (.Constant (.str t) i4 p4) .Add y1 p5) env),(false,eval y2 env)]) hy2 fun _ _ _ _ _ _ _ _ _ _ => rfl]
 refine PySem.Calls.spliced_cons (wpAny_BinOp (PySem.Calls.Constant_str (sub000 (s:={ s with toks:=s.toks + 1 }) f r h1 h4 hs hy1 (z:=a0) rfl fun va h' tk ke g ra => op_bin (s:={ s with heap:=h',toks:=tk }) e6 (.str t _ okt) ra ao g fun vz h2 tk2 ke2 g2 rz => ?_)))
 have r2:=(r.step f ke g).step f ke2 g2
 refine PySem.Calls.spliced_cons (sub000 (s:={ s with heap:=h2,toks:=tk2 }) f r2 h1 h4 hs hy2 (z:=v0) rfl fun vv h3 tk3 ke3 g3 rv => PySem.Calls.spliced_nil (wpAny_newTuple ?_ (by show 2 <= sizeLine; decide)))
 have rz3:=rz.ex ke3 g2.hid
 generalize hto:({ cls:=.type "tuple",data:=.seq [vz,vv].toArray }:Obj) = ob
 have rT:Rd (HC B O) (h3.push ob) (.ref h3.objs.size) (.tuple [t0,v0]):=hto ▸ new_tuple (s:={ s with heap:=h3,toks:=tk3 }) g3 (.cons rz3 (.cons rv .nil)) (show 2 <= big by decide)
 have r4:=(r2.step f ke3 g3).step f (Ext.ex (Ext.push ob)) (g3.same (Ext.push ob))
 have ke4:EX C.T s.heap (h3.push ob):=((ke.trans ke2).trans ke3).trans (Ext.ex (Ext.push ob))
 generalize h3.push ob = h5 at *
 obtain ⟨a,b,vs,ws,vs1,O1,ld,la,hv,lb,rs,hbd,is,hb,hO⟩:=r4.head h1 hs
 refine sub0 (s:={ s with heap:=h5,toks:=tk3 }) f h1 h4 ld la hv fun tk5 => wpAny_Constant_int ?_
 have m0:a ∈ O i:=by rw [hO]; exact List.mem_cons_self
 have mb:b ∈ O i:=by rw [hO]; exact List.mem_cons_of_mem _ List.mem_cons_self
 have own0:=r4.own i a m0
 have ownb:=r4.own i b mb
 have nd:=r4.ndp i
 rw [hO,List.nodup_cons,List.nodup_cons] at nd
 have hlen:=rs.length
 rw [Array.length_toList,List.length_cons] at hlen
 refine wpAny_setItem_list lb.isList (by decide) (by decide) (show (0:Int) < (ws.size:Int) by rw [hlen]; exact Int.natCast_pos.mpr (Nat.succ_pos _)) fun h6 lb6 sb => ?_
 have e6:EX [b] h5 h6:=same_ex sb
 have one:∀ c ∈ [b],HC B O c:=fun c m => by rw [List.mem_singleton.mp m]; exact .inr ⟨i,mb⟩
 have kk:∀ c,HC B (upd O i []) c -> HC B O c:=fun c m => (hc_upd c m).elim id fun q => by cases q
 have nO:∀ c ∈ O i,¬ HC B (upd O i []) c:=fun c m q => by
  rcases q with q | ⟨j,q⟩
  ·exact (r4.own i c m).2.2.2 q
  ·by_cases hj:j = i
   ·subst hj; rw [upd_self] at q; cases q
   ·rw [upd_ne hj] at q; exact hj (r4.dis j i c q m)
 have la6:h6.PlainList a vs:=PList.ex la e6 fun m => nd.1 (by rw [List.mem_singleton.mp m]; exact List.mem_cons_self)
 have rb:Rd (HC B (upd O i [])) h6 (.ref b) (.list (.tuple [t0,v0] :: ds)):=by
  refine Rd.ofList hbd (nO b mb) lb6 ?_
  revert rs hlen
  rw [Array.toList_setIfInBounds]
  cases ws.toList with
  | nil => exact fun rs => nomatch rs
  | cons w0 ws1 =>
   intro rs _
   cases rs with
   | cons _ rs => exact .cons ((rT.ex e6 one).less kk) ((rs.ex e6 one).less kk)
 refine iq f ao hq hev ((r4.nohide f).chg f (N:=[]) (L:=[]) h1 mb e6 (IsList.live lb6) .nil no_mem no_mem ⟨rfl,.inr ⟨.ref a,Loads.keep f ownb.2.2.2 e6 ld,Rd.ofList (xs:=.list (.tuple [t0,v0] :: ds) :: rest.map itmD) (by rw [List.length_cons,List.length_map]; exact hb) (nO a m0) la6.isList ?_⟩⟩) (k.after ((Fr.T ke4).chg (i:=i) (N:=[]) (L:=[]) mb e6 no_mem no_mem))
 rw [hv]
 refine .cons rb ((is.ex e6 one fun c m q => nd.2.1 (by rw [<- List.mem_singleton.mp q]; exact m)).rds kk fun c m => nO c ?_)
 rw [hO]; exact List.mem_cons_of_mem _ (List.mem_cons_of_mem _ m)
theorem bump_if {t:PySem.Expr} {env:Env} {Q:Bool -> Shared -> Prop} (hb:bumpX t = true) (h:wpAny (model C.prog C.w) A (isTrue t env (eval t env)) (fun b s' => 1 <= s'.toks -> Q b s') Ex s):wpAny (model C.prog C.w) A (isTrue t env (eval t env)) Q Ex s:=by
 revert h
 refine vAnd_elim (motive:=fun t => wpAny (model C.prog C.w) A (isTrue t env (eval t env)) (fun b s' => 1 <= s'.toks -> Q b s') Ex s -> wpAny (model C.prog C.w) A (isTrue t env (eval t env)) Q Ex s) hb fun ys p hb => ?_
 cases ys with
 | nil => exact (Bool.false_ne_true hb).elim
 | cons y ys =>
  refine vCmp1_elim (motive:=fun y => wpAny (model C.prog C.w) A (isTrue (.BoolOp .And (y :: ys) p) env (eval (.BoolOp .And (y :: ys) p) env)) (fun b s' => 1 <= s'.toks -> Q b s') Ex s -> wpAny (model C.prog C.w) A (isTrue (.BoolOp .And (y :: ys) p) env (eval (.BoolOp .And (y :: ys) p) env)) Q Ex s) hb fun l o r p1 hb => ?_
  cases o <;> first | exact (Bool.false_ne_true hb).elim | skip
  refine ba2 hb fun hl hr => ?_
  refine vNm_elim (motive:=fun l => wpAny (model C.prog C.w) A (isTrue (.BoolOp .And (.Compare l [.Eq] [r] p1 :: ys) p) env (eval (.BoolOp .And (.Compare l [.Eq] [r] p1 :: ys) p) env)) (fun b s' => 1 <= s'.toks -> Q b s') Ex s -> wpAny (model C.prog C.w) A (isTrue (.BoolOp .And (.Compare l [.Eq] [r] p1 :: ys) p) env (eval (.BoolOp .And (.Compare l [.Eq] [r] p1 :: ys) p) env)) Q Ex s) hl fun x p2 _ => ?_
  refine vInt_elim (motive:=fun r => wpAny (model C.prog C.w) A (isTrue (.BoolOp .And (.Compare (.Name x p2) [.Eq] [r] p1 :: ys) p) env (eval (.BoolOp .And (.Compare (.Name x p2) [.Eq] [r] p1 :: ys) p) env)) (fun b s' => 1 <= s'.toks -> Q b s') Ex s -> wpAny (model C.prog C.w) A (isTrue (.BoolOp .And (.Compare (.Name x p2) [.Eq] [r] p1 :: ys) p) env (eval (.BoolOp .And (.Compare (.Name x p2) [.Eq] [r] p1 :: ys) p) env)) Q Ex s) hr fun j k p3 _ => ?_
  rw [arm_isTrue_BoolOp]
  exact fun h => wpAny_mono (bump_cond h) (fun _ _ q => q.2 q.1) fun _ _ q => q
theorem rsp_val (sd:∀ e,Snd C F n e) {lam:Option Pos} {Γ:List (Str × NameKind)} {env:Env} {ρ:List RV} {f:Str} {es:E} {v:PySem.Expr} {d0 d:PyData} {Q:Value -> Shared -> Prop} (hx:vRsp (isX C.G lam (.call f es) false Γ env.scope) v = true) (ev:evE F (.call f es) ρ = some d0) (hd:rspD d0 = some d) (hr:Here C lam Γ env ρ A n H s.heap) (hp:1 <= s.toks) (k:KD C H s Q d):wpAny (model C.prog C.w) A (eval v env) Q Ex s:=by
 refine vCallA_elim (motive:=fun v => wpAny (model C.prog C.w) A (eval v env) Q Ex s) hx fun o m ap ys cp x1 => ?_
 refine ba2 x1 fun hm x2 => ba2 x2 fun hl x3 => ba2 x3 fun hy x4 => ?_
 rw [beq_iff_eq] at hm; subst hm
 refine l1_elim (motive:=fun ys => wpAny (model C.prog C.w) A (eval (.Call (.Attribute o "split" ap) ys [] cp) env) Q Ex s) hy fun y hy => ?_
 refine vStr_elim (motive:=fun y => wpAny (model C.prog C.w) A (eval (.Call (.Attribute o "split" ap) [y] [] cp) env) Q Ex s) hy fun z iz pz hz => ?_
 rw [beq_iff_eq] at hz; subst hz
 refine vCallA_elim (motive:=fun o => wpAny (model C.prog C.w) A (eval (.Call (.Attribute o "split" ap) [.Constant (.str (mkS [44])) iz pz] [] cp) env) Q Ex s) x4 fun o m ap2 ys cp2 x5 => ?_
 refine ba2 x5 fun hm2 x6 => ba2 x6 fun hl2 x7 => ba2 x7 fun hy2 x8 => ?_
 rw [beq_iff_eq] at hm2; subst hm2
 refine l2_elim (motive:=fun ys => wpAny (model C.prog C.w) A (eval (.Call (.Attribute (.Call (.Attribute o "replace" ap2) ys [] cp2) "split" ap) [.Constant (.str (mkS [44])) iz pz] [] cp) env) Q Ex s) hy2 fun y1 y2 hy3 => ?_
 refine ba2 hy3 fun hy4 hy5 => ?_
 refine vStr_elim (motive:=fun y1 => wpAny (model C.prog C.w) A (eval (.Call (.Attribute (.Call (.Attribute o "replace" ap2) [y1,y2] [] cp2) "split" ap) [.Constant (.str (mkS [44])) iz pz] [] cp) env) Q Ex s) hy4 fun z1 i1 p1 hz1 => ?_
 rw [beq_iff_eq] at hz1; subst hz1
 refine vStr_elim (motive:=fun y2 => wpAny (model C.prog C.w) A (eval (.Call (.Attribute (.Call (.Attribute o "replace" ap2) [.Constant (.str (mkS [59])) i1 p1,y2] [] cp2) "split" ap) [.Constant (.str (mkS [44])) iz pz] [] cp) env) Q Ex s) hy5 fun z2 i2 p2 hz2 => ?_
 rw [beq_iff_eq] at hz2; subst hz2
 refine xEA (sP_inv hd) fun x e hd => ?_
 obtain rfl:=e
 obtain ⟨hc,rfl⟩:=ite_some hd
 have hbase:attributeBase o "replace" env (eval o env) = eval o env:=by
  refine vCallN_elim (motive:=fun o => attributeBase o "replace" env (eval o env) = eval o env) x8 fun g pg ys q h => ?_
  cases ys with
  | nil => exact absurd (Bool.and_eq_true_iff.mp h).2 Bool.false_ne_true
  | cons _ _ => rfl
 refine meth_call (T:="str") (id:="str.split") rfl (fun z hz => by rw [List.mem_singleton.mp hz]) (show 1 < 29 by decide) hl PySem.F.plainAttrs_str PySem.F.slot_str_split PySem.F.type_str_split ?_
 refine meth_call (T:="str") (id:="str.replace") hbase (fun z hz => ?_) (show 2 < 29 by decide) hl2 PySem.F.plainAttrs_str PySem.F.slot_str_replace PySem.F.type_str_replace ?_
 ·rcases List.mem_cons.mp hz with rfl | hz
  ·rfl
  ·rw [List.mem_singleton.mp hz]
 ·refine wpAny_with_toks hp (wpAny_mono ((sd (.call f es)).v (Q:=fun ov s₁ => 1 <= s₁.toks -> s₁.TypeIs ov "str" /\ (∀ a,ov = .ref a -> ∃ ob,s₁.heap.get? a = some ob /\ ob.dict = none) /\ wpAny (model C.prog C.w) A (spliced (starEach [.Constant (.str (mkS [59])) i1 p1,.Constant (.str (mkS [32])) i2 p2] env)) _ _ s₁) x8 ev hr fun v1 h' tk ke g ra => fun hp => ?_) (fun _ _ q => q) fun _ _ e _ => e)
  refine xEA (ra.str_inv) fun t r1 ok => ?_
  obtain rfl:=r1
  refine ⟨rfl,fun _ e => (by cases e),?_⟩
  refine PySem.Calls.spliced_cons (PySem.Calls.Constant_str (PySem.Calls.spliced_cons (x:=eval (.Constant (.str (mkS [32])) i2 p2) env) (rest:=[]) (PySem.Calls.Constant_str (PySem.Calls.spliced_nil ?_))))
  refine op_semi (C:=C) (s:={ s with heap:=h',toks:=tk + 1 + 1 }) hc.1 hp fun t' tk' => ?_
  refine ⟨rfl,fun _ e => (by cases e),?_⟩
  refine PySem.Calls.spliced_cons (x:=eval (.Constant (.str (mkS [44])) iz pz) env) (rest:=[]) (PySem.Calls.Constant_str (PySem.Calls.spliced_nil ?_))
  exact op_split1 (s:={ s with heap:=h',toks:=tk' + 1 }) ⟨hc.2.1,Nat.le_trans hc.2.2 (by decide)⟩ hc.2.2 g (k.after ke)
theorem b_iteR (sd:∀ e,Snd C F n e) {c es:E} {i:Nat} {g:Str} {a b q:Bk} (ia:SndB C F n a) (ib:SndB C F n b) (iq:SndB C F n q):SndB C F n (.iteR c i g es a b q):=by
 intro lam Γ env H0 B h0 xs σ σ' fl A O s Q Ex f ao hx hev r k
 apply bIf_elim (xs:=xs) hx; intro t ys zs p qs hx
 refine obind hev fun d ec hev => ?_
 refine obind hev fun ⟨o,σ1⟩ eb hev => ?_
 refine ba5 hx fun hc hbu hys hzs hq => ?_
 refine wpAny_execs_cons (wpAny_If (bump_if hbu ((sd c).c hc ec (r.here f ao) fun h' tk ke gg hp => ?_)))
 have r':=r.step f ke gg
 have kk:Kt C Γ env H0 B h0 { s with heap:=h',toks:=tk } O o σ1 (fun f s' => match f with | .next => wpAny (model C.prog C.w) A (execs qs env) Q Ex s' | f => Q f s'):=by
  refine ⟨fun e h'' tk' O' r'' fr => ?_,fun d e v h'' tk' x g' rd => ?_⟩
  ·subst e; exact iq f ao hq hev r'' (k.after ((Fr.T ke).trans fr))
  ·subst e; cases hev; exact k.ret d rfl v h'' tk' x g' rd
 cases ht:truth d with
 | true =>
  rw [ht,if_pos rfl] at eb; rw [if_pos rfl]
  apply bAsgN_elim (xs:=ys) hys; intro x px v p' q' hys
  refine ba3 hys fun hn hv ha => ?_
  refine xEAAA (nameOk_inv hn) fun kd h1 h2 h3 h4 => ?_
  refine obind eb fun d1 e1 eb => ?_
  refine obind e1 fun d0 e0 e1 => ?_
  have hsw:swapsWith v (some (.Name x px)) p'.line env = pure false:=vCallA_elim (motive:=fun v => swapsWith v (some (.Name x px)) p'.line env = pure false) hv fun _ _ _ _ _ _ => rfl
  refine wpAny_execs_cons (wpAny_Assign_Name (rsp_val (s:={ s with heap:=h',toks:=tk }) sd hv e0 e1 (r'.here f ao) hp fun v' h'' tk' ke' g' rd => put_store f (s:={ s with heap:=h'',toks:=tk' }) (r'.step f ke' g') h1 fun h3 tk3 pp => ?_) hsw)
  exact ia f ao ha eb ((r'.step f ke' g').putRV f h1 pp (rv:=.d d1) rd) (kk.after ((Fr.T ke').put pp no_mem))
 | false => rw [ht] at eb; exact ib f ao hzs eb r' kk
end
section
variable {C:Cx} {F:Str -> List RV -> Option PyData} {n:Nat}
inductive WT (C:Cx) (F:Str -> List RV -> Option PyData) (Γ:List (Str × NameKind)) (env:Env) (B:Addr -> Prop) (h0:Heap) (s:Shared) (O:Nat -> List Addr) (c:E) (b:Bk) (z:Fl) (m:Nat):Shared -> Prop
 | mk (h:Heap) (tk:Nat) (σ:List Sl) (O':Nat -> List Addr):SR C Γ env B h0 h σ O' -> Fr C env O O' s.heap h -> whlD (fun σ => evE F c (rvs σ)) (evS F b) m σ = some z -> WT C F Γ env B h0 s O c b z m { s with heap:=h,toks:=tk }
theorem b_whl (sd:∀ e,Snd C F n e) {c:E} {b q:Bk} (ib:SndB C F n b) (iq:SndB C F n q):SndB C F n (.whl c b q):=by
 intro lam Γ env H0 B h0 xs σ σ' fl A O s Q Ex f ao hx hev r k
 apply bWhl_elim (xs:=xs) hx; intro t ys pos qs hx
 refine obind hev fun z ew hev => ?_
 refine ba3 hx fun hc hb hq => ?_
 refine wpAny_execs_cons (wpAny_While ?_)
 refine codeAny_whileLoop (WT C F Γ env B h0 s O c b z) ?_ wfuel (.mk s.heap s.toks σ O r Fr.refl ew)
 intro m s' wt
 cases wt with
 | mk h tk σ2 O2 r2 fr2 ew2 =>
  cases m with
  | zero => cases ew2
  | succ m =>
   replace ew2:((evE F c (rvs σ2)).bind fun t => if truth t then (evS F b σ2).bind fun q => (match q.1 with
    | none => whlD (fun σ => evE F c (rvs σ)) (evS F b) m q.2
    | some d => some (some d,q.2)) else some (none,σ2)) = some z:=ew2
   refine obind ew2 fun t' ec ew2 => ?_
   refine (sd c).c hc ec (r2.here f ao) fun h3 tk3 ke g => ?_
   have r3:=r2.step f ke g
   have fr3:=fr2.trans (Fr.T ke)
   cases ht:truth t' with
   | true =>
    rw [ht,if_pos rfl] at ew2
    rw [if_pos rfl]
    refine obind ew2 fun q4 eb ew2 => ?_
    refine ib f ao hb (fl:=q4.1) (σ':=q4.2) eb r3 ⟨fun e h4 tk4 O4 r4 fr4 => ?_,fun d e v h4 tk4 x g' rd => ?_⟩ <;> rw [e] at ew2
    ·exact ⟨m,Nat.lt_succ_self m,.mk h4 tk4 q4.2 O4 r4 (fr3.trans fr4) ew2⟩
    ·cases ew2
     cases hev
     exact k.ret d rfl v h4 tk4 x g' rd
   | false =>
    rw [ht] at ew2
    cases ew2
    exact wpAny_execs_nil (iq f ao hq hev r3 (k.after fr3))
inductive FT (C:Cx) (Γ:List (Str × NameKind)) (env:Env) (B:Addr -> Prop) (h0:Heap) (s:Shared) (O:Nat -> List Addr) (I:Addr) (items:List PyData) (step:PyData -> List Sl -> Option Fl) (z:Fl):Nat -> Shared -> Prop
 | mk (i:Nat) (h:Heap) (tk:Nat) (σ:List Sl) (O':Nat -> List Addr):SR C Γ env (HideL B [I]) h0 h σ O' -> Fr C env O O' s.heap h -> IterOk C (HC (HideL B [I]) O') I items i h -> i <= items.length -> forD step (items.drop i) σ = some z -> FT C Γ env B h0 s O I items step z (items.length - i) { s with heap:=h,toks:=tk }
theorem for_turn {lam:Option Pos} {Γ:List (Str × NameKind)} {env:Env} {H0 B:Addr -> Prop} {h0 h h3:Heap} {σ:List Sl} {A:Around} {O O2:Nat -> List Addr} {s:Shared} {Ex:Value -> Shared -> Prop} {b:Bk} {ys:List Stmt} {I:Addr} {items:List PyData} {is:List Nat} {t:PySem.Expr} {ns:List Str} {z:Fl} {i tk3:Nat} {v:Value} {d:PyData} {Qb:Flow -> Shared -> Prop}
  (ib:SndB C F n b) (f:FE C lam Γ env H0 B h0) (ao:AOk A (n + 1)) (ha:I ∉ C.T /\ C.hb.get? I = none /\ h0.get? I = none /\ ¬ B I) (nS:s.heap.get? I = none) (hns:tgtNames t = some ns) (htg:isTgt Γ env.scope is ns = true) (hb:isB C.G lam Γ env.scope b ys = true)
  (r2:SR C Γ env (HideL B [I]) h0 h σ O2) (fr2:Fr C env O O2 s.heap h) (hlt:i < items.length) (hd:items[i]? = some d) (ew:forD (fun x σ => (bindT is.length x).bind fun tg => evS F b (setAll σ is tg)) (items.drop i) σ = some z) (rd:Rd (HC (HideL B [I]) O2) h3 v d) (it3:IterOk C (HC (HideL B [I]) O2) I items (i + 1) h3) (ex3:EX [I] h h3)
  (kn:∀ h' tk,FT C Γ env B h0 s O I items (fun x σ => (bindT is.length x).bind fun tg => evS F b (setAll σ is tg)) z (items.length - (i + 1)) { s with heap:=h',toks:=tk } -> Qb .next { s with heap:=h',toks:=tk })
  (kr:∀ d v h' tk,z.1 = some d -> EX C.T h0 h' -> GG C H0 h' -> Rd H0 h' v d -> Qb (.ret v) { s with heap:=h',toks:=tk }) :
  wpAny (model C.prog C.w) A (letOwnedTupleGo t (.ref I) v) (fun _ s1 => wpAny (model C.prog C.w) A (assign t env v) (fun _ s2 => wpAny (model C.prog C.w) A (execs ys env) Qb Ex s2) Ex s1) Ex { s with heap:=h3,toks:=tk3 }:=by
 refine xAAA ha fun hT hB h0I nB => ?_
 have f1:FE C lam Γ env H0 (HideL B [I]) h0:=f.hide fun a q => by rw [List.mem_singleton.mp q]; exact h0I
 have nL:I ≠ env.locals:=fun q => nB (q ▸ f.loc.1)
 have nWr:¬ Wr C env I:=fun q => q.elim hT fun q => q.elim nL fun ⟨x,q⟩ => nB (f.cel x I q).1.1
 have wB:∀ b,Wr C env b -> HideL B [I] b:=fun b q => q.elim (fun q => .inl (f.tB b q)) fun q => q.elim (fun q => .inl (by rw [q]; exact f.loc.1)) fun ⟨x,q⟩ => .inl (f.cel x b q).1.1
 refine xAA (isTgt_inv htg) fun i1 i2 i3 => ?_
 have locOf:∀ x ∈ ns,env.kindOf x = some .local:=fun x hx => by
  obtain ⟨t,htl,hte⟩:=List.getElem_of_mem hx
  have hi:is[t]? = some (is[t]'(i1 ▸ htl)):=List.getElem?_eq_getElem (i1 ▸ htl)
  exact (f.kd _ _ _ (i3 t _ x hi (by rw [List.getElem?_eq_getElem htl,hte]))).1
 have oI:Own C (HC (HideL B [I]) O2) I:=⟨.inl (.inr List.mem_cons_self),hT,hB⟩
 have nIO:∀ j,∀ a ∈ O2 j,a ∉ [I]:=fun j a m q => (r2.own j a m).2.2.2 (.inr q)
 have r3:SR C Γ env (HideL B [I]) h0 h3 σ O2:=⟨r2.ex.fresh h0I ex3,r2.gg.step1 oI ex3 it3.live,r2.len,r2.ns' f nB ex3,r2.cel' f nB ex3,fun j z kz hj => (r2.sl j z kz hj).ex ex3 oI.one (nIO j) fun w => Loads.keep f nB ex3,r2.out,r2.own,r2.dis,r2.ndp⟩
 rw [List.drop_eq_getElem_cons hlt,Option.some.inj ((List.getElem?_eq_getElem hlt).symm.trans hd)] at ew
 refine obind ew fun q4 es ew => ?_
 refine obind es fun tg et es => ?_
 refine iter_go it3 ?_
 obtain ⟨m,hm⟩:=r3.ns
 rw [i1] at et
 refine op_assign (H:=HC (HideL B [I]) O2) (s:={ s with heap:=h3,toks:=tk3 }) ao.h hns et rd f.kind locOf hm fun ws h4 tk4 hwl hw htl ns4 ex4 => ?_
 have ex4':EX [env.locals] h3 h4:=ex4
 refine xEAA (r3.binds f1 htg hm ns4 ex4' (fun t rv ht => xEAEA (hw t rv ht) fun w hw1 y r3 rw => ⟨w,hw1,r3 ▸ rw⟩) htl) fun O4 r4 sub4 fr4 => ?_
 have it4:IterOk C (HC (HideL B [I]) O4) I items (i + 1) h4:=(it3.step ex4' (fun b m => by rw [List.mem_singleton.mp m]; exact .inl f1.loc.1) (fun q => nL (List.mem_singleton.mp q))).less sub4 (.inl (.inr List.mem_cons_self))
 refine ib f1 ao hb (fl:=q4.1) (σ':=q4.2) es r4 ⟨fun e h5 tk5 O5 r5 fr5 => ?_,fun d e v h5 tk5 x g' rd => ?_⟩ <;> replace ew:(match q4.1 with
   | none => forD _ (items.drop (i + 1)) q4.2
   | some d => some (some d,q4.2)) = some z:=ew <;> rw [e] at ew
 ·have nI4:∀ j,I ∉ O4 j:=fun j q => (r4.own j I q).2.2.2 (.inr List.mem_cons_self)
  refine kn h5 tk5 (.mk (i + 1) h5 tk5 q4.2 O5 r5 (((fr2.fresh ex3 nS).trans fr4).trans fr5) (it4.fr (fun b oo q e => ?_) (fun b q => ?_) (.inl (.inr List.mem_cons_self))) hlt ew)
  ·rcases q with rfl | q
   ·exact fr5.keep _ oo nWr nI4 e
   ·exact fr5.keep b oo (fun q' => q (.inl (wB b q'))) (fun j q' => q (.inr ⟨j,q'⟩)) e
  ·rcases q with q | ⟨j,q⟩
   ·exact .inl (.inl q)
   ·rcases fr5.gr j b q with q' | q' | q'
    ·exact .inl (.inr q')
    ·exact .inr q'
    ·exact .inl (.inl (wB b q'))
 ·cases ew
  exact kr d v h5 tk5 rfl x g' rd
theorem b_for (sd:∀ e,Snd C F n e) {is:List Nat} {it:E} {b q:Bk} (ib:SndB C F n b) (iq:SndB C F n q):SndB C F n (.for_ is it b q):=by
 intro lam Γ env H0 B h0 xs σ σ' fl A O s Q Ex f ao hx hev r k
 apply bFor_elim (xs:=xs) hx; intro t iter ys pos qs hx
 refine obind hev fun items ei0 hev => ?_
 refine obind ei0 fun di ei hitems => ?_
 refine obind hev fun z ew hev => ?_
 refine ba4 hx fun htg hit hb hq => ?_
 refine xEA (tgtOk_inv htg) fun ns hns htg => ?_
 refine wpAny_execs_cons (wpAny_For ?_ (folded_pure hit))
 refine (sd it).i hit ei hitems (r.here f ao) fun hbig h1 tk1 ob ke g hob iter0 => ?_
 have r1:=r.step f ke g
 refine xAA (r1.alloc f ob hob) fun rA ha km => ?_
 have nS:s.heap.get? h1.objs.size = none:=EX.none_of ke ha.1 (Heap.get?_none_of_le (Nat.le_refl _))
 have iter1:IterOk C (HC (HideL B [h1.objs.size]) O) h1.objs.size items 0 (h1.push ob):=iter0.less (fun a m => by
  rcases m with (m | m) | m
  ·exact .inl (.inl m)
  ·exact .inr (List.mem_singleton.mp m)
  ·exact .inl (.inr m)) (.inl (.inr List.mem_cons_self))
 refine codeAny_forLoop_any (FT C Γ env B h0 s O h1.objs.size items (fun x σ => (bindT is.length x).bind fun tg => evS F b (setAll σ is tg)) z) ?_ items.length (.mk 0 _ tk1 σ O rA (Fr.T (ke.trans (Ext.ex (Ext.push ob)))) iter1 (Nat.zero_le _) ew)
 intro m s' ft
 cases ft with
 | mk i h tk σ2 O2 r2 fr2 it2 hle ew2 =>
  by_cases hlt:i < items.length
  ·refine iter_next ao.h it2 hlt fun v h3 tk3 d hd rd it3 ex3 => ?_
   exact for_turn (s:=s) ib f ao ha nS hns htg hb r2 fr2 hlt hd ew2 rd it3 ex3 (fun h' tk ft => ⟨_,sub_next hlt,ft⟩) fun d v h' tk e x g rd => by
    replace hev:(match z.1 with
     | none => evS F q z.2
     | some d => some (some d,z.2)) = some (fl,σ'):=hev
    rw [e] at hev
    cases hev
    exact k.ret d rfl v h' tk x g rd
  ·obtain rfl:i = items.length:=Nat.le_antisymm hle (Nat.le_of_not_lt hlt)
   rw [List.drop_length] at ew2
   cases ew2
   refine iter_done ao.h it2 fun h3 tk3 ex3 => ?_
   exact wpAny_execs_nil (iq f ao hq hev (r2.unhideX f ex3 ha.2.2.2 ha.1 ha.2.1 ha.2.2.1) (k.after (fr2.fresh ex3 nS)))
theorem sndB (K:CxOk C) (KF:FnsOk C) (FO:FOk C F n):∀ b,SndB C F n b:=by
 have sd:=snd K KF FO
 intro b
 induction b with
 | nil => exact b_nil
 | frz i r ir => exact b_frz ir
 | asg i e r ir => exact b_asg sd ir
 | own i e r ir => exact b_own sd ir
 | own1 i r ir => exact b_own1 ir
 | app i e r ir => exact b_app sd ir
 | appo i e r ir => exact b_appo sd ir
 | appl i e r ir => exact b_appl sd ir
 | iteR c i f es a b r ia ib ir => exact b_iteR sd ia ib ir
 | set00 i s r ir => exact b_set00 ir
 | aug i op e r ir => exact b_aug sd ir
 | unp is e r ir => exact b_unp sd ir
 | srch i p e r ir => exact b_srch K sd ir
 | ite c a b r ia ib ir => exact b_ite sd ia ib ir
 | whl c b r ib ir => exact b_whl sd ib ir
 | for_ is it b r ib ir => exact b_for sd ib ir
 | ret e => exact b_ret sd
 | asrt c r ir => exact b_asrt sd ir
 | asrtN i r ir => exact b_asrtN K ir
end
noncomputable def parsOf (as:List Arg):Arguments:=⟨[],as,none,[],[],none,[]⟩
noncomputable def BindAt (as:List Arg) (vals:List Value) (r:List (Str × Value)):Prop:=∀ (nm:Str) (body:List Stmt) (sc:Scope) (pm c doc:Value),bindArgs (PySem.Calls.docDef nm (parsOf as) body sc pm c doc) ⟨vals,[]⟩ = pure r
noncomputable def BindOk (ns:List Str):Prop:=∀ (as:List Arg) (vals:List Value),as.map (·.arg) = ns -> vals.map (fun _ => ()) = ns.map (fun _ => ()) -> BindAt as vals (ns.zip vals)
theorem map_cons {α β:Type} {f:α -> β} {as:List α} {n:β} {ns:List β} (h:as.map f = n :: ns) {Q:List α -> Prop} (k:∀ x t,f x = n -> t.map f = ns -> Q (x :: t)):Q as:=by
 cases as with
 | nil => exact nomatch h
 | cons x t => exact k x t (List.cons.inj h).1 (List.cons.inj h).2
theorem map_nil {α β:Type} {f:α -> β} {as:List α} (h:as.map f = []) {Q:List α -> Prop} (k:Q []):Q as:=by
 cases as with
 | nil => exact k
 | cons x t => exact nomatch h
theorem arg_eq {x:Arg} {n:Str} (h:x.arg = n) {Q:Arg -> Prop} (k:∀ a p,Q ⟨n,a,p⟩):Q x:=by
 cases x; cases h; exact k _ _
theorem bindOk_1 {n:Str} (h:∀ a p w,BindAt [⟨n,a,p⟩] [w] [(n,w)]):BindOk [n]:=fun as vals h1 h2 =>
 map_cons (Q:=fun as => BindAt as vals _) h1 fun x t e1 e2 => map_nil (Q:=fun t => BindAt (x :: t) vals _) e2 <| map_cons (Q:=fun vals => BindAt [x] vals ([n].zip vals)) h2 fun v t' _ e3 => map_nil (Q:=fun t => BindAt [x] (v :: t) ([n].zip (v :: t))) e3 <| arg_eq e1 (Q:=fun x => BindAt [x] [v] [(n,v)]) fun a p => h a p v
theorem bindOk_2 {n m:Str} (h:∀ a p b q w v,BindAt [⟨n,a,p⟩,⟨m,b,q⟩] [w,v] [(n,w),(m,v)]):BindOk [n,m]:=fun as vals h1 h2 =>
 map_cons (Q:=fun as => BindAt as vals _) h1 fun x t e1 e2 => map_cons (Q:=fun t => BindAt (x :: t) vals _) e2 fun y t e2 e3 => map_nil (Q:=fun t => BindAt (x :: y :: t) vals _) e3 <|
  map_cons (Q:=fun vals => BindAt [x,y] vals ([n,m].zip vals)) h2 fun v t' _ e4 => map_cons (Q:=fun t => BindAt [x,y] (v :: t) ([n,m].zip (v :: t))) e4 fun w t' _ e4 => map_nil (Q:=fun t => BindAt [x,y] (v :: w :: t) ([n,m].zip (v :: w :: t))) e4 <|
  arg_eq e1 (Q:=fun x => BindAt [x,y] [v,w] [(n,v),(m,w)]) fun a p => arg_eq e2 (Q:=fun y => BindAt [_,y] [v,w] [(n,v),(m,w)]) fun b q => h a p b q v w
theorem unit_map {vals:List Value} {ns:List Str} (h:vals.length = ns.length):vals.map (fun _ => ()) = ns.map (fun _ => ()):=by rw [List.map_const',List.map_const',h]
structure Fn where
 name:Str
 np:Nat
 slots:List (Str × NameKind)
 lam:Option Pos
 body:Bk
noncomputable def argsOf:Arguments -> Option (List Str)
 | p => if p.posonlyargs.isEmpty && p.vararg.isNone && p.kwonlyargs.isEmpty && p.kw_defaults.isEmpty && p.kwarg.isNone && p.defaults.isEmpty then some (p.args.map (·.arg)) else none
noncomputable def fnOk (G:GC) (fn:Fn) (params:Arguments) (body:List Stmt) (sc:Scope):Bool:=
 (argsOf params == some ((fn.slots.take fn.np).map (·.1))) && decide (fn.np <= fn.slots.length) && decide (sc.kind = .function) && !sc.isGenerator && !sc.isCoroutine &&
 decide ((fn.slots.map (·.1)).Nodup) && (fn.slots.all fun x => lk sc x.1 == some x.2 && (x.2 == .local || x.2 == .cell)) && isB G fn.lam fn.slots sc fn.body body
noncomputable def runFn (fns:List Fn):Nat -> Str -> List RV -> Option PyData
 | 0,_,_ => none
 | k + 1,f,args => (fns.find? (fun fn => fn.name == f)).bind fun fn => if args.length = fn.np then (evS (runFn fns k) fn.body (args.map .rv ++ List.replicate (fn.slots.length - fn.np) (.rv .un))).bind (·.1) else none
structure FnOk (C:Cx) (fn:Fn):Prop where
 ex:∃ a o pm code doc params body sc c,C.mg fn.name = some (.ref a) /\ C.hb.get? a = some o /\ a ∉ C.T /\ o.data = .func (PySem.Calls.docDef fn.name params body sc pm code doc) /\ code = .ref c /\ c ∉ C.T /\ C.hb.CodeRec code fn.name /\ fnOk C.G fn params body sc = true /\
  ∀ pos,fn.lam = some pos -> ∃ l ∈ C.lams,l.c = c /\ l.pos = pos /\ l.q = fn.name ++ ".<locals>." ++ "<lambda>"
 bind:BindOk ((fn.slots.take fn.np).map (·.1))
theorem cellsFrom_some {x:Str}:∀ {names:List (Str × NameKind)} {n:Nat} {acc:List (Str × Addr)},((acc.lookup x).isSome = true \/ (x,NameKind.cell) ∈ names) -> ((cellsFrom n names acc).lookup x).isSome = true
 | [],_,_,h => by
  rcases h with h | h
  ·exact h
  ·cases h
 | (m,k) :: r,n,acc,h => by
  unfold cellsFrom
  by_cases hk:k = .cell
  ·subst hk
   rw [if_pos (show (NameKind.cell == NameKind.cell) = true by decide)]
   refine cellsFrom_some ?_
   rcases h with h | h
   ·left
    rw [List.lookup_cons]
    cases x == m <;> first | rfl | exact h
   ·rcases List.mem_cons.mp h with h | h
    ·left; cases h; rw [List.lookup_cons,beq_self_eq_true]; rfl
    ·exact .inr h
  ·have:(k == NameKind.cell) = false:=by simpa using hk
   rw [this]
   refine cellsFrom_some ?_
   rcases h with h | h
   ·exact .inl h
   ·rcases List.mem_cons.mp h with h | h
    ·cases h; exact (hk rfl).elim
    ·exact .inr h
theorem bindL_other {kd:Str -> Option NameKind} {x:Str}:∀ {ns:List Str} {vs:List Value} {m:Str -> Option Value},x ∉ ns -> bindL kd (ns.zip vs) m x = m x
 | [],_,_,_ => by simp [bindL]
 | _ :: _,[],_,_ => by simp [bindL]
 | n :: ns,v :: vs,m,h => by
  rw [List.zip_cons_cons,bindL,bindL_other fun q => h (List.mem_cons_of_mem _ q)]
  split
  ·exact if_neg fun (e:x = n) => h (by rw [e]; exact List.mem_cons_self)
  ·rfl
theorem bindL_at {kd:Str -> Option NameKind} {x:Str} {v:Value} (hk:kd x = some .local):∀ {ns:List Str} {vs:List Value} {m:Str -> Option Value} {i:Nat},ns.Nodup -> ns[i]? = some x -> vs[i]? = some v -> bindL kd (ns.zip vs) m x = some v
 | [],_,_,i,_,h,_ => by simp at h
 | _ :: _,[],_,i,_,_,h => by simp at h
 | n :: ns,w :: vs,m,i,hn,h1,h2 => by
  rw [List.zip_cons_cons,bindL]
  rw [List.nodup_cons] at hn
  cases i with
  | zero =>
   simp at h1 h2; subst h1 h2
   rw [bindL_other hn.1,if_pos hk]
   exact if_pos rfl
  | succ i => exact bindL_at hk hn.2 (by simpa using h1) (by simpa using h2)
theorem bindC_other {kd:Str -> Option NameKind} {x:Str}:∀ {ns:List Str} {vs:List Value} {m:Str -> Option Value},x ∉ ns -> bindC kd (ns.zip vs) m x = m x
 | [],_,_,_ => by simp [bindC]
 | _ :: _,[],_,_ => by simp [bindC]
 | n :: ns,v :: vs,m,h => by
  rw [List.zip_cons_cons,bindC,bindC_other fun q => h (List.mem_cons_of_mem _ q)]
  split
  ·rfl
  ·exact if_neg fun (e:x = n) => h (by rw [e]; exact List.mem_cons_self)
theorem bindC_at {kd:Str -> Option NameKind} {x:Str} {v:Value} (hk:kd x ≠ some .local):∀ {ns:List Str} {vs:List Value} {m:Str -> Option Value} {i:Nat},ns.Nodup -> ns[i]? = some x -> vs[i]? = some v -> bindC kd (ns.zip vs) m x = some v
 | [],_,_,i,_,h,_ => by simp at h
 | _ :: _,[],_,i,_,_,h => by simp at h
 | n :: ns,w :: vs,m,i,hn,h1,h2 => by
  rw [List.zip_cons_cons,bindC]
  rw [List.nodup_cons] at hn
  cases i with
  | zero =>
   simp at h1 h2; subst h1 h2
   rw [bindC_other hn.1,if_neg hk]
   exact if_pos rfl
  | succ i => exact bindC_at hk hn.2 (by simpa using h1) (by simpa using h2)
theorem getSl_init {args:List RV} {j i:Nat}:getSl (args.map .rv ++ List.replicate j (.rv .un)) i = .rv (getRV args i):=by
 unfold getSl getRV
 by_cases h:i < args.length
 ·rw [List.getElem?_append_left (by rw [List.length_map]; exact h),List.getElem?_map,List.getElem?_eq_getElem h]; rfl
 ·rw [List.getElem?_append_right (by rw [List.length_map]; lia),List.getElem?_eq_none (l:=args) (by (exact Nat.le_of_not_lt (by assumption))),List.getElem?_replicate]
  split <;> rfl
theorem pars_eq {po as:List Arg} {va:Option Arg} {ko kd kw df} (a1:po.isEmpty = true) (a2:va.isNone = true) (a3:List.isEmpty ko = true) (a4:List.isEmpty kd = true) (a5:Option.isNone kw = true) (a6:List.isEmpty df = true):Arguments.mk po as va ko kd kw df = parsOf as:=by
 rw [List.isEmpty_iff.mp a1,Option.isNone_iff_eq_none.mp a2,List.isEmpty_iff.mp a3,List.isEmpty_iff.mp a4,Option.isNone_iff_eq_none.mp a5,List.isEmpty_iff.mp a6]; rfl
theorem argsOf_some {p:Arguments} {ns:List Str} (h:argsOf p = some ns):∃ as,p = parsOf as /\ as.map (·.arg) = ns:=by
 cases p with
 | mk po as va ko kd kw df => exact ba6 (ite_some h).1 fun a1 a2 a3 a4 a5 a6 => ⟨as,pars_eq a1 a2 a3 a4 a5 a6,(ite_some h).2⟩
structure FnK (G:GC) (fn:Fn) (params:Arguments) (body:List Stmt) (sc:Scope):Prop where
 par:∃ as,params = parsOf as /\ as.map (·.arg) = (fn.slots.take fn.np).map (·.1)
 le:fn.np <= fn.slots.length
 kind:sc.kind = .function
 gen:sc.isGenerator = false
 cor:sc.isCoroutine = false
 nd:(fn.slots.map (·.1)).Nodup
 sl:∀ (i:Nat) x kd,fn.slots[i]? = some (x,kd) -> sc.names.lookup x = some kd /\ (kd = .local \/ kd = .cell)
 blk:isB G fn.lam fn.slots sc fn.body body = true
theorem fnOk_k {G:GC} {fn:Fn} {params:Arguments} {body:List Stmt} {sc:Scope} (h:fnOk G fn params body sc = true):FnK G fn params body sc:=
 ba8 h fun a1 a2 a3 a4 a5 a6 a7 a8 => ⟨argsOf_some (eq_of_beq a1),of_decide_eq_true a2,of_decide_eq_true a3,(Bool.not_eq_true' _).mp a4,(Bool.not_eq_true' _).mp a5,of_decide_eq_true a6,
  fun i x kd hi => ba2 (List.all_eq_true.mp a7 _ (List.mem_of_getElem? hi)) fun b1 b2 => ⟨eq_of_beq b1,((Bool.or_eq_true _ _).mp b2).imp eq_of_beq eq_of_beq⟩,a8⟩
theorem FnK.np {G:GC} {fn:Fn} {params:Arguments} {body:List Stmt} {sc:Scope} (k:FnK G fn params body sc):((fn.slots.take fn.np).map (·.1)).length = fn.np:=by
 rw [List.length_map,List.length_take,Nat.min_eq_left k.le]
theorem FnK.ndp {G:GC} {fn:Fn} {params:Arguments} {body:List Stmt} {sc:Scope} (k:FnK G fn params body sc):((fn.slots.take fn.np).map (·.1)).Nodup:=
 ((List.take_sublist _ _).map _).nodup k.nd
theorem FnK.arg {G:GC} {fn:Fn} {params:Arguments} {body:List Stmt} {sc:Scope} (k:FnK G fn params body sc) {n:Nat} {vs:List Value}:∀ x ∈ ((fn.slots.take fn.np).map (·.1)).zip vs,sc.names.lookup x.1 = some .local \/ (sc.names.lookup x.1 = some .cell /\ ((cellsFrom n sc.names []).lookup x.1).isSome = true):=by
 intro x hx
 obtain ⟨q,hq,e⟩:=List.mem_map.mp (List.of_mem_zip hx).1
 obtain ⟨i,hi⟩:=List.getElem?_of_mem (List.mem_of_mem_take hq)
 obtain ⟨h9,h10⟩:=k.sl i q.1 q.2 hi
 rw [e] at h9
 rcases h10 with h10 | h10 <;> rw [h10] at h9
 ·exact .inl h9
 ·exact .inr ⟨h9,cellsFrom_some (.inr (lookup_mem h9))⟩
section
variable {C:Cx} {H:Addr -> Prop} {s s₁:Shared} {env:Env} {m cm:Str -> Option Value} {G:GC} {fn:Fn} {params:Arguments} {body:List Stmt}
noncomputable def bagOf (H:Addr -> Prop) (env:Env):Addr -> Prop:=fun b => H b \/ b = env.locals \/ ∃ x,env.cells.lookup x = some b
theorem ic_none (ic:InCallC s env.locals m env.cells cm s₁):s.heap.get? env.locals = none:=Heap.get?_none_of_le ic.toInCall.fresh
theorem ic_cell (ic:InCallC s env.locals m env.cells cm s₁) {x:Str} {c:Addr} (hc:env.cells.lookup x = some c):s.heap.get? c = none:=Heap.get?_none_of_le (Nat.le_trans ic.toInCall.fresh (Nat.le_of_lt (ic.above x c (lookup_mem hc))))
theorem bag_back (ic:InCallC s env.locals m env.cells cm s₁):∀ b,bagOf H env b -> H b \/ s.heap.get? b = none:=fun b q =>
 q.imp_right fun q => q.elim (fun q => (congrArg s.heap.get? q).trans (ic_none ic)) fun ⟨_,q⟩ => ic_cell ic q
theorem bag_own (g:GG C H s.heap) {b:Addr} (q:bagOf H env b) (e:s.heap.get? b = none):Own C (bagOf H env) b:=by
 have nT:b ∉ C.T:=fun m => by obtain ⟨oo,eo⟩:=g.live b (g.hid b m); rw [e] at eo; cases eo
 refine ⟨q,nT,?_⟩
 cases e2:C.hb.get? b with
 | none => rfl
 | some oo => rw [g.base b oo nT e2] at e; cases e
theorem fe_init (k:FnK G fn params body env.scope) (g:GG C H s.heap) (ic:InCallC s env.locals m env.cells cm s₁) (hg:env.globals = mainGlobals) (hb:env.builtins = builtinsNs) (hc:∀ x,env.kindOf x = some .cell -> (env.cells.lookup x).isSome = true)
  (hlam:∀ pos,fn.lam = some pos -> ∃ l ∈ C.lams,env.code = .ref l.c /\ l.pos = pos /\ l.q = env.qual ++ "<lambda>"):FE C fn.lam fn.slots env H (bagOf H env) s.heap:=by
 refine ⟨k.kind,hg,hb,hc,k.sl,fun i j x kd kd' hi hj => ?_,bag_own g (.inr (.inl rfl)) (ic_none ic),ic_none ic,fun x c' hc => ⟨bag_own g (.inr (.inr ⟨x,hc⟩)) (ic_cell ic hc),ic_cell ic hc,fun e => Nat.lt_irrefl c' ?_⟩,fun x y c' hx hy => name_of_addr ic.apart (lookup_mem hx) (lookup_mem hy),fun b q => .inl q,bag_back ic,g,hlam⟩
 ·have e1:(fn.slots.map (·.1))[i]? = some x:=by rw [List.getElem?_map,hi]; rfl
  have e2:(fn.slots.map (·.1))[j]? = some x:=by rw [List.getElem?_map,hj]; rfl
  exact (List.getElem?_inj (List.getElem?_eq_some_iff.mp e1).1 k.nd).mp (e1.trans e2.symm)
 ·have:=ic.above x c' (lookup_mem hc)
  rwa [<- e] at this
theorem sr_init {args:List RV} {vs:List Value} (k:FnK G fn params body env.scope) (g:GG C H s.heap) (ha:args.length = fn.np) (hl:vs.length = args.length) (hv:∀ (i:Nat) (rv:RV) (v:Value),args[i]? = some rv -> vs[i]? = some v -> RVok H s.heap v rv)
  (ic:InCallC s env.locals (bindL env.kindOf (((fn.slots.take fn.np).map (·.1)).zip vs) fun _ => none) env.cells (bindC env.kindOf (((fn.slots.take fn.np).map (·.1)).zip vs) fun _ => none) s₁) (fe:FE C fn.lam fn.slots env H (bagOf H env) s.heap) :
  SR C fn.slots env (bagOf H env) s.heap s₁.heap (args.map .rv ++ List.replicate (fn.slots.length - fn.np) (.rv .un)) (fun _ => []):=by
 have hext:Ext s.heap s₁.heap:=ic.toInCall.keep
 have hO:∀ b,HC (bagOf H env) (fun _ => []) b -> bagOf H env b:=fun b q => q.elim id fun ⟨_,q⟩ => by cases q
 have gg1:GG C (HC (bagOf H env) fun _ => []) s₁.heap:=g.hide hext (fun b q => bag_back ic b (hO b q)) (fun b q => .inl (.inl q)) fun b q => by
  rcases hO b q with q | rfl | ⟨x,q⟩
  ·obtain ⟨oo,e⟩:=g.live b q; exact ⟨oo,hext b oo e⟩
  ·exact Ns.live ic.toInCall.ns
  ·obtain ⟨oo,e,_⟩:=ic.cell x b q; exact ⟨oo,e⟩
 refine ⟨Ext.ex hext,gg1,by rw [List.length_append,List.length_map,List.length_replicate,ha,Nat.add_sub_cancel' k.le],⟨_,ic.toInCall.ns⟩,fun x c' hc => ⟨_,ic.cell x c' hc⟩,fun i x kd hi => ?_,fun _ _ => rfl,fun _ _ q => (by cases q),fun _ _ _ q => (by cases q),fun _ => List.nodup_nil⟩
 rw [getSl_init]
 refine ⟨rfl,?_⟩
 by_cases hlt:i < fn.np
 ·have hrv:args[i]? = some (args[i]'(ha ▸ hlt)):=List.getElem?_eq_getElem _
  have hvv:vs[i]? = some (vs[i]'(by rw [hl,ha]; exact hlt)):=List.getElem?_eq_getElem _
  rw [getRV_some hrv]
  have hnx:((fn.slots.take fn.np).map (·.1))[i]? = some x:=by
   rw [List.getElem?_map,List.getElem?_take,if_pos hlt,hi]; rfl
  refine .inr ⟨_,?_,((hv i _ _ hrv hvv).more fun b q => bag_back ic b (hO b q)).ex (Ext.ex (X:=[]) hext) no_mem⟩
  obtain ⟨h9,h10⟩:=fe.kd i x kd hi
  rcases h10 with rfl | rfl
  ·exact .inl ⟨rfl,fe.loc.2.1,_,ic.toInCall.ns,bindL_at h9 k.ndp hnx hvv⟩
  ·obtain ⟨c',hc'⟩:=Option.isSome_iff_exists.mp (fe.cell x h9)
   have:=ic.cell x c' hc'
   rw [bindC_at (by rw [h9]; exact fun h => by cases h) k.ndp hnx hvv] at this
   exact .inr ⟨rfl,c',(fe.cel x c' hc').1.2.1,hc',this⟩
 ·left
  unfold getRV
  rw [List.getElem?_eq_none (ha ▸ Nat.le_of_not_lt hlt)]; rfl
end
theorem call_fn {C:Cx} (K:CxOk C) {F:Str -> List RV -> Option PyData} {n:Nat} (sb:∀ b,SndB C F n b) {fn:Fn} (ok:FnOk C fn) {args:List RV} {d:PyData} {σ':List Sl} {A:Around} {H:Addr -> Prop} {s:Shared} {vs:List Value} {Q:Value -> Shared -> Prop} {Ex:Value -> Shared -> Prop} {a:Addr}
  (ha:args.length = fn.np) (ev:evS F fn.body (args.map .rv ++ List.replicate (fn.slots.length - fn.np) (.rv .un)) = some (some d,σ')) (ao:AOk A (n + 3)) (g:GG C H s.heap) (hl:vs.length = args.length) (hv:∀ (i:Nat) (rv:RV) (v:Value),args[i]? = some rv -> vs[i]? = some v -> RVok H s.heap v rv)
  (k:KD C H s Q d) (hm:C.mg fn.name = some (.ref a)):wpAny (model C.prog C.w) A (call (.ref a) vs) Q Ex s:=by
 refine xEEEEEEEEEAAAAAAAA (ok.ex) fun a' o pm code doc params body sc c hm' ho haT hd r13 hcT hcr hok hlam => ?_
 obtain rfl:=Value.ref.inj (Option.some.inj (hm.symm.trans hm'))
 have kk:=fnOk_k hok
 refine xEA kk.par fun as r1 has => ?_
 rw [r1,r13] at hd
 refine wpAny_call (codeAny_call_cells (o:=o) ao.dep (g.base a o haT ho) hd (g.nol K) (CodeRec.ex (r13 ▸ hcr) g.base hcT) rfl (ok.bind as vs has (unit_map ((hl.trans ha).trans kk.np.symm)) _ _ _ _ _ _) rfl kk.arg (fun s₁ ic => ?_) kk.cor kk.gen kk.kind)
 have fe:=fe_init (fn:=fn) kk g ic rfl rfl (fun x hx => cellsFrom_some (.inr (lookup_mem hx))) fun pos hp => xEAAA (hlam pos hp) fun l hl e1 e2 e3 => ⟨l,hl,congrArg Value.ref e1.symm,e2,e3⟩
 have sr:=sr_init kk g ha hl hv ic fe
 refine xEE (ic.toInCall.same) fun h' tk' hs1 => ?_
 rw [hs1] at sr ⊢
 refine sb fn.body (s:={ s with heap:=h',toks:=tk' }) fe (ao.deeper.less (Nat.le_of_lt (Nat.lt_succ_self _))) kk.blk ev sr ⟨fun e => (by cases e),fun d' e v h2 tk2 x g' rd => k v h2 tk2 x g' (by cases e; exact rd)⟩
theorem runFn_ok {C:Cx} (K:CxOk C) {fns:List Fn} (ok:∀ fn ∈ fns,FnOk C fn) (hg:∀ f ∈ C.G.fns,f ∈ fns.map (·.name)):∀ k,FOk C (runFn fns k) (3 * k):=by
 have KF:FnsOk C:=fun f hf => by
  refine xEA (List.mem_map.mp (hg f hf)) fun fn hfn r2 => ?_
  obtain rfl:=r2
  refine xEEEEEEEEEAAAA ((ok fn hfn).ex) fun a o pm code doc params body sc c h1 h2 h3 h4 _ => ?_
  exact ⟨a,o,_,h1,h2,h4,h3⟩
 intro k
 induction k with
 | zero => intro f args d h; cases h
 | succ k ih =>
  intro f args d h hf A ao H s vs Q Ex g hl hv kd a hm
  refine xEA (Option.bind_eq_some_iff.mp h) fun fn hfn h1 => ?_
  ·have hmem:=List.mem_of_find?_eq_some hfn
   have hname:fn.name = f:=by simpa using List.find?_some hfn
   by_cases hlen:args.length = fn.np
   ·refine xEA (Option.bind_eq_some_iff.mp ((if_pos hlen).symm.trans h1)) fun q ev hq => ?_
    obtain ⟨q1,σ'⟩:=q
    have hq:q1 = some d:=hq
    subst hq
    exact call_fn K (sndB K KF ih) (ok fn hmem) hlen ev ao g hl hv kd (hname ▸ hm)
   ·exact nomatch (if_neg hlen).symm.trans h1
theorem meth_join {sep:List Nat} {ys:List PyData} {ps:List (List Nat)} (hs:strsOf ys = some ps) (hl:(joinL sep ps).length <= big):methD "join" (sx sep) [.list ys] = some (sx (joinL sep ps)):=by
 show ((strsOf ys).bind fun ps => if (joinL sep ps).length <= big then some (sx (joinL sep ps)) else none) = _
 rw [hs]
 exact if_pos hl
section
variable {F:Str -> List RV -> Option PyData} {i:Nat} {e c:E} {r a b:Bk} {σ σ':List Sl} {d:PyData} {t:List Nat} {p:Pat}
theorem e_srch (h:evE F e (rvs σ) = some (sx t)) (hl:t.length <= 10000):evS F (.srch i p e r) σ = evS F r (σ.set i (.rv (srchRV p (mkS t)))):=by
 have q:(tl (mkS t)).length <= 10000:=hl
 show ((evE F e (rvs σ)).bind strD).bind _ = _
 rw [h]
 show ((if (tl (mkS t)).length <= 10000 then some (mkS t) else none).bind _) = _
 rw [if_pos q]; rfl
theorem e_asg (h:evE F e (rvs σ) = some d):evS F (.asg i e r) σ = evS F r (σ.set i (.rv (.d d))):=by
 show (evE F e (rvs σ)).bind _ = _
 rw [h]; rfl
theorem e_ite_t (h:evE F c (rvs σ) = some d) (ht:truth d = true) (ha:evS F a σ = some (none,σ')):evS F (.ite c a b r) σ = evS F r σ':=by
 show (evE F c (rvs σ)).bind _ = _
 rw [h]
 show (if truth d = true then evS F a σ else evS F b σ).bind _ = _
 rw [if_pos ht,ha]; rfl
theorem e_last_t (h:evE F c (rvs σ) = some d) (ht:truth d = true):evS F (.ite c a b .nil) σ = evS F a σ:=by
 show (evE F c (rvs σ)).bind _ = _
 rw [h]
 show (if truth d = true then evS F a σ else evS F b σ).bind _ = _
 rw [if_pos ht]
 cases evS F a σ with
 | none => rfl
 | some q => obtain ⟨o,σ'⟩:=q; cases o <;> rfl
theorem e_last_f (h:evE F c (rvs σ) = some d) (ht:truth d = false):evS F (.ite c a b .nil) σ = evS F b σ:=by
 show (evE F c (rvs σ)).bind _ = _
 rw [h]
 show (if truth d = true then evS F a σ else evS F b σ).bind _ = _
 rw [ht,if_neg (by decide)]
 cases evS F b σ with
 | none => rfl
 | some q => obtain ⟨o,σ'⟩:=q; cases o <;> rfl
theorem e_ite_f (h:evE F c (rvs σ) = some d) (ht:truth d = false) (hb:evS F b σ = some (none,σ')):evS F (.ite c a b r) σ = evS F r σ':=by
 show (evE F c (rvs σ)).bind _ = _
 rw [h]
 show (if truth d = true then evS F a σ else evS F b σ).bind _ = _
 rw [ht,if_neg (by decide),hb]; rfl
theorem e_app {l:List Itm} (h:evE F e (rvs σ) = some d) (ho:getSl σ i = .own l) (hl:l.length < big):evS F (.app i e r) σ = evS F r (σ.set i (.own (l ++ [.fz d]))):=by
 have q:(l ++ [Itm.fz d]).length <= big:=by rw [List.length_append]; exact hl
 show (evE F e (rvs σ)).bind _ = _
 rw [h]
 show (onOwn σ i fun l => some (l ++ [.fz d])).bind _ = _
 unfold onOwn
 rw [ho]
 show (if (l ++ [Itm.fz d]).length <= big then some (σ.set i (.own (l ++ [.fz d]))) else none).bind _ = _
 rw [if_pos q]; rfl
end
noncomputable def dictP {α:Type} (f:Array DictEntry -> Option α):Data -> Option α
 | .dict es _ => f es
 | _ => none
noncomputable def funcP {α:Type} (f:FuncData -> Option α):Data -> Option α
 | .func fd => f fd
 | _ => none
noncomputable def mgIn (K:Frag) (x:Str):Option Value:=(K.lookup mainGlobals).bind fun o => dictP (fun es => nsFind es x) o.data
noncomputable def codeOf (K:Frag) (a:Addr):Option Value:=(K.lookup a).bind fun o => funcP (fun fd => some fd.code) o.data
theorem mg_of {K:Frag} {h:Heap} {mg:Str -> Option Value} (X:K.In h) (hn:h.Ns mainGlobals mg) {x:Str} {v:Value} (e:mgIn K x = some v):mg x = some v:=by
 refine xEEEAAA (hn) fun o es ep ho hd _ hm => ?_
 refine xEA (Option.bind_eq_some_iff.mp e) fun o' hl e' => ?_
 obtain rfl:=Option.some.inj (ho.symm.trans (X _ _ hl))
 rw [hd] at e'
 rw [<- hm x]; exact e'
noncomputable def mgNo (K:Frag) (x:Str):Bool:=((K.lookup mainGlobals).bind fun o => dictP (fun es => some (nsFind es x).isNone) o.data) == some true
theorem mg_no {K:Frag} {h:Heap} {mg:Str -> Option Value} (X:K.In h) (hn:h.Ns mainGlobals mg) {x:Str} (e:mgNo K x = true):mg x = none:=by
 refine xEEEAAA (hn) fun o es ep ho hd _ hm => ?_
 refine xEA (Option.bind_eq_some_iff.mp (eq_of_beq e)) fun o' hl e' => ?_
 obtain rfl:=Option.some.inj (ho.symm.trans (X _ _ hl))
 rw [hd] at e'
 rw [<- hm x]; exact Option.isNone_iff_eq_none.mp (Option.some.inj e')
noncomputable def patObj (x0:Str) (t0:Tok) (f:Int) (t1:Tok) (g:Nat) (tp:Addr):Obj:={ cls:=.type "re.Pattern",data:=.fields #[.str x0 t0,.int f t1,rawInt g,.none,.none,.ref tp,rawInt 0] }
noncomputable def codeObj (c:Array Nat):Obj:={ cls:=.type "tuple",data:=.seq (c.map fun (w:Nat) => rawInt w) }
def PatAt (K:Frag) (a:Addr) (p:Pat):Prop:=∃ x0 t0 f t1 tp,K.lookup a = some (patObj x0 t0 f t1 p.groups tp) /\ K.lookup tp = some (codeObj p.code)
theorem patIn_is {K:Frag} {h:Heap} {a:Addr} {p:Pat} (X:K.In h) (e:PatAt K a p):IsPat h a p.code p.groups:=by
 refine xEEEEEA (e) fun x0 t0 f t1 tp e1 e2 => ?_
 exact ⟨⟨_,_,_,_,tp,_,_,X _ _ e1,X _ _ e2,rfl⟩⟩
noncomputable def b3_quotedata:Bk:=
 (.ret (.subS .dot (.str (mkS [46,46])) (.subS .eol (.gstr "CRLF" (mkS [13,10])) (.var 0))))
noncomputable def b3_unmatched:Bk:=
 (.unp [1,2] (.span 0) (.ret (.bin .Add (.slc (.mstr 0) .none (.var 1)) (.slc (.mstr 0) (.var 2) .none))))
noncomputable def b3_split_header_words:Bk:=
 (.asrtN 0 (.own 1 (.lst .nil) (.for_ [2] (.var 0) (.asg 3 (.var 2) (.own 4 (.lst .nil) (.whl (.var 2) (.srch 5 .tok (.var 2) (.ite (.hasm 5) (.asg 2 (.callm "unmatched" 5) (.asg 6 (.grp 5) (.srch 5 .quo (.var 2) (.ite (.hasm 5) (.asg 2 (.callm "unmatched" 5) (.asg 7 (.grp 5) (.asg 7 (.subL .esc (.var 7)) .nil))) (.srch 5 .val (.var 2) (.ite (.hasm 5) (.asg 2 (.callm "unmatched" 5) (.asg 7 (.grp 5) (.asg 7 (.meth "rstrip" (.var 7) .nil) .nil))) (.asg 7 .none .nil) .nil)) (.app 4 (.tup (.cons (.var 6) (.cons (.var 7) .nil))) .nil))))) (.ite (.meth "startswith" (.meth "lstrip" (.var 2) .nil) (.cons (.str (mkS [44])) .nil)) (.asg 2 (.slc (.meth "lstrip" (.var 2) .nil) (.int 1) .none) (.frz 4 (.ite (.var 4) (.frz 4 (.app 1 (.var 4) .nil)) .nil (.own 4 (.lst .nil) .nil)))) (.unp [8,9] (.subn .junk (.var 2)) (.asrt (.cmp .Gt (.var 9) (.int 0)) (.asg 2 (.var 8) .nil))) .nil) .nil)) (.frz 4 (.ite (.var 4) (.frz 4 (.app 1 (.var 4) .nil)) .nil .nil))))) (.frz 1 (.ret (.var 1))))))
noncomputable def b3_join_header_words:Bk:=
 (.own 1 (.lst .nil) (.for_ [2] (.var 0) (.own 3 (.lst .nil) (.for_ [4,5] (.var 2) (.ite (.cmp .IsNot (.var 5) .none) (.ite (.not_ (.full .jtok (.var 5))) (.asg 5 (.subL .jesc (.var 5)) (.asg 5 (.fmt1 (.var 5)) .nil)) .nil (.asg 4 (.fmt2 (.var 4) (.var 5)) .nil)) .nil (.app 3 (.var 4) .nil)) (.frz 3 (.ite (.var 3) (.frz 3 (.app 1 (.meth "join" (.str (mkS [59,32])) (.cons (.var 3) .nil)) .nil)) .nil .nil)))) (.frz 1 (.ret (.meth "join" (.str (mkS [44,32])) (.cons (.var 1) .nil))))))
noncomputable def fnOkIn (G:GC) (p:Program) (fn:Fn):Bool:=match (recsOf p).find? fun d => d.name == fn.name with
 | some d => fnOk G fn d.params d.body d.scope
 | none => false
theorem forD_acc {α β:Type} {step:PyData -> List Sl -> Option Fl} (S:α -> List Sl) (en:β -> PyData) (f:α -> β -> α) (P:α -> List β -> Prop) (hs:∀ a x r,P a (x :: r) -> step (en x) (S a) = some (none,S (f a x)) /\ P (f a x) r) :
  ∀ (xs:List β) (a:α),P a xs -> forD step (xs.map en) (S a) = some (none,S (xs.foldl f a))
 | [],a,_ => rfl
 | x :: xs,a,h => by
  obtain ⟨h1,h2⟩:=hs a x xs h
  rw [List.map_cons,forD,h1]
  exact forD_acc S en f P hs xs (f a x) h2
noncomputable abbrev PV:=List Nat × Option (List Nat)
noncomputable def valD:Option (List Nat) -> PyData
 | none => .none
 | some v => sx v
noncomputable def pairD (p:PV):PyData:=.tuple [sx p.1,valD p.2]
noncomputable def listD (ps:List PV):PyData:=.list (ps.map pairD)
noncomputable def joinV (v:List Nat):List Nat:=if (!v.isEmpty && v.all isJt) = true then v else fmt1L (jescL v)
noncomputable def joinPair (p:PV):List Nat:=match p.2 with
 | none => p.1
 | some v => fmt2L p.1 (joinV v)
noncomputable def pairOk (p:PV):Prop:=p.1.length <= 10000 /\ ∀ v,p.2 = some v -> v.length <= 10000
theorem joinV_len (v:List Nat):(joinV v).length <= 2 * v.length + 2:=by
 unfold joinV
 split
 ·(simp +arith)
 ·unfold fmt1L; have:=jescL_len v; simp; (assumption)
noncomputable def bPair:Bk:=(.ite (.cmp .IsNot (.var 5) .none) (.ite (.not_ (.full .jtok (.var 5))) (.asg 5 (.subL .jesc (.var 5)) (.asg 5 (.fmt1 (.var 5)) .nil)) .nil (.asg 4 (.fmt2 (.var 4) (.var 5)) .nil)) .nil (.app 3 (.var 4) .nil))
theorem evS_pair {F:Str -> List RV -> Option PyData} {p:PV} {a b c:Sl} {l:List (List Nat)} (ok:pairOk p) (hl:l.length < big) :
  evS F bPair [a,b,c,.own (l.map fun x => .fz (sx x)),.rv (.d (sx p.1)),.rv (.d (valD p.2))] =
   some (none,[a,b,c,.own ((l ++ [joinPair p]).map fun x => .fz (sx x)),.rv (.d (sx (joinPair p))),.rv (.d (match p.2 with | none => .none | some v => sx (joinV v)))]):=by
 obtain ⟨k,v⟩:=p
 obtain ⟨h1,h2⟩:=ok
 have hbig:big = 1000000:=rfl
 have h5:l.length + 1 <= big:=hl
 have h1':k.length <= 10000:=h1
 have hap:∀ (y:Sl) (z:List Nat),evS F (.app 3 (.var 4) .nil) [a,b,c,.own (l.map fun x => .fz (sx x)),.rv (.d (sx z)),y] = some (none,[a,b,c,.own ((l ++ [z]).map fun x => .fz (sx x)),.rv (.d (sx z)),y]):=fun y z => by
  refine (e_app (d:=sx z) (l:=l.map fun x => .fz (sx x)) rfl rfl (by rw [List.length_map]; exact hl)).trans ?_
  rw [List.map_append]; rfl
 unfold bPair
 cases v with
 | none => exact (e_ite_f (d:=.bool false) rfl rfl rfl).trans (hap _ k)
 | some v =>
  have hv:=h2 v rfl
  have hj:=jescL_len v
  have hjv:=joinV_len v
  have e0:∀ x:Sl,evS F (.asg 4 (.fmt2 (.var 4) (.var 5)) .nil) [a,b,c,.own (l.map fun x => .fz (sx x)),.rv (.d (sx k)),.rv (.d (sx (joinV v)))] = some (none,[a,b,c,.own (l.map fun x => .fz (sx x)),.rv (.d (sx (fmt2L k (joinV v)))),.rv (.d (sx (joinV v)))]):=fun _ => by
   refine (e_asg (d:=sx (fmt2L k (joinV v))) ?_).trans rfl
   show (if (tl (mkS k)).length + (tl (mkS (joinV v))).length + 1 <= big then some (sx (fmt2L k (joinV v))) else none) = _
   rw [if_pos (show k.length + (joinV v).length + 1 <= big by lia)]
  refine (e_ite_t (d:=.bool true) (σ':=[a,b,c,.own (l.map fun x => .fz (sx x)),.rv (.d (sx (fmt2L k (joinV v)))),.rv (.d (sx (joinV v)))]) rfl rfl ?_).trans (hap _ _)
  have hc:evE F (.not_ (.full .jtok (.var 5))) (rvs [a,b,c,.own (l.map fun x => .fz (sx x)),.rv (.d (sx k)),.rv (.d (sx v))]) = some (.bool (!(!v.isEmpty && v.all isJt))):=by
   have:fullP .jtok (sx v) = some (.bool (!v.isEmpty && v.all isJt)):=by
    show (if (tl (mkS v)).length <= 10000 /\ Pat.jtok = .jtok then some (PyData.bool (!v.isEmpty && v.all isJt)) else none) = _
    rw [if_pos ⟨hv,rfl⟩]
   show (fullP .jtok (sx v)).bind (fun x => some (PyData.bool (!truth x))) = _
   rw [this]; rfl
  cases hb:(!v.isEmpty && v.all isJt) with
  | true =>
   have e:joinV v = v:=by unfold joinV; rw [hb]; rfl
   rw [hb] at hc
   rw [e] at e0 ⊢
   exact (e_ite_f hc rfl rfl).trans (e0 a)
  | false =>
   have e:joinV v = fmt1L (jescL v):=by unfold joinV; rw [hb]; rfl
   rw [hb] at hc
   rw [e] at e0 ⊢
   refine (e_ite_t (σ':=[a,b,c,.own (l.map fun x => .fz (sx x)),.rv (.d (sx k)),.rv (.d (sx (fmt1L (jescL v))))]) hc rfl ?_).trans (e0 a)
   refine (e_asg (d:=sx (jescL v)) ?_).trans ((e_asg (d:=sx (fmt1L (jescL v))) ?_).trans rfl)
   ·show (if (tl (mkS v)).length <= 10000 then (subLD .jesc v).map sx else none) = _
    rw [if_pos (show v.length <= 10000 from hv)]; rfl
   ·show (if (tl (mkS (jescL v))).length + 2 <= big then some (sx (fmt1L (jescL v))) else none) = _
    rw [if_pos (show (jescL v).length + 2 <= big by lia)]
noncomputable def joinRow (ps:List PV):List Nat:=joinL [59,32] (ps.map joinPair)
noncomputable def joinAll (L:List (List PV)):List Nat:=joinL [44,32] (L.map joinRow)
noncomputable def rowOk (ps:List PV):Prop:=ps ≠ [] /\ ps.length < big /\ (∀ p ∈ ps,pairOk p) /\ (joinRow ps).length <= big
theorem strsOf_map:∀ l:List (List Nat),strsOf (l.map fun x => sx x) = some l
 | [] => rfl
 | x :: l => by rw [List.map_cons,strsOf,strsOf_map l]; rfl
theorem itmD_map (l:List (List Nat)):(l.map fun x => Itm.fz (sx x)).map itmD = l.map fun x => sx x:=by rw [List.map_map]; rfl
noncomputable def pvStep (q:List (List Nat) × Sl × Sl) (p:PV):List (List Nat) × Sl × Sl:=(q.1 ++ [joinPair p],.rv (.d (sx (joinPair p))),.rv (.d (match p.2 with | none => .none | some v => sx (joinV v))))
theorem pvStep_fst:∀ (ps:List PV) (q:List (List Nat) × Sl × Sl),(ps.foldl pvStep q).1 = q.1 ++ ps.map joinPair
 | [],q => by simp
 | p :: ps,q => by rw [List.foldl_cons,pvStep_fst ps]; simp [pvStep]
theorem pairs_loop {F:Str -> List RV -> Option PyData} {a b c x y:Sl} {ps:List PV} (hp:∀ p ∈ ps,pairOk p) (hl:ps.length < big) :
  ∃ x' y',forD (fun x σ => (bindT 2 x).bind fun tg => evS F bPair (setAll σ [4,5] tg)) (ps.map pairD) [a,b,c,.own [],x,y] = some (none,[a,b,c,.own ((ps.map joinPair).map fun x => .fz (sx x)),x',y']):=by
 have:=forD_acc (step:=fun x σ => (bindT 2 x).bind fun tg => evS F bPair (setAll σ [4,5] tg)) (fun q:List (List Nat) × Sl × Sl => [a,b,c,.own (q.1.map fun x => .fz (sx x)),q.2.1,q.2.2]) pairD pvStep
  (fun q ps => (∀ p ∈ ps,pairOk p) /\ q.1.length + ps.length < big) (fun q p r ⟨h1,h2⟩ => by
   rw [List.length_cons] at h2
   refine ⟨evS_pair (h1 p List.mem_cons_self) (by lia),fun p' m => h1 p' (List.mem_cons_of_mem _ m),?_⟩
   simp [pvStep]; lia) ps ([],x,y) ⟨hp,by simpa using hl⟩
 refine ⟨(ps.foldl pvStep ([],x,y)).2.1,(ps.foldl pvStep ([],x,y)).2.2,?_⟩
 rw [pvStep_fst] at this
 exact this
noncomputable def bRow:Bk:=(.own 3 (.lst .nil) (.for_ [4,5] (.var 2) bPair (.frz 3 (.ite (.var 3) (.frz 3 (.app 1 (.meth "join" (.str (mkS [59,32])) (.cons (.var 3) .nil)) .nil)) .nil .nil))))
theorem evS_row {F:Str -> List RV -> Option PyData} {a c x y:Sl} {hs:List (List Nat)} {ps:List PV} (ok:rowOk ps) (hl:hs.length < big) :
  ∃ c' x' y',evS F bRow [a,.own (hs.map fun x => .fz (sx x)),.rv (.d (listD ps)),c,x,y] = some (none,[a,.own ((hs ++ [joinRow ps]).map fun x => .fz (sx x)),.rv (.d (listD ps)),c',x',y']):=by
 refine xAAA (ok) fun hne hlen hp hr => ?_
 have h5:hs.length + 1 <= big:=hl
 refine xEE (pairs_loop (F:=F) (a:=a) (b:=.own (hs.map fun x => .fz (sx x))) (c:=.rv (.d (listD ps))) (x:=x) (y:=y) hp hlen) fun x' y' hloop => ?_
 refine ⟨.rv (.d (.list ((ps.map joinPair).map fun x => sx x))),x',y',?_⟩
 have hemp:((ps.map joinPair).map fun x => sx x).isEmpty = false:=by cases ps with | nil => exact (hne rfl).elim | cons p r => rfl
 have hs':=strsOf_map (ps.map joinPair)
 have hr':(joinL [59,32] (ps.map joinPair)).length <= big:=hr
 show (forD (fun x σ => (bindT 2 x).bind fun tg => evS F bPair (setAll σ [4,5] tg)) (ps.map pairD) [a,.own (hs.map fun x => .fz (sx x)),.rv (.d (listD ps)),.own [],x,y]).bind (fun q => match q.1 with
  | none => evS F (.frz 3 (.ite (.var 3) (.frz 3 (.app 1 (.meth "join" (.str (mkS [59,32])) (.cons (.var 3) .nil)) .nil)) .nil .nil)) q.2
  | some d => some (some d,q.2)) = _
 rw [hloop]
 show evS F (.frz 3 (.ite (.var 3) (.frz 3 (.app 1 (.meth "join" (.str (mkS [59,32])) (.cons (.var 3) .nil)) .nil)) .nil .nil)) _ = _
 have hm:=itmD_map (ps.map joinPair)
 have hj:methD "join" (sx [59,32]) [.list ((ps.map joinPair).map fun x => sx x)] = some (sx (joinRow ps)):=by
  exact meth_join hs' hr'
 have f1:frzSl (.own ((ps.map joinPair).map fun x => .fz (sx x))) = .rv (.d (.list ((ps.map joinPair).map fun x => sx x))):=by
  show Sl.rv (.d (.list (((ps.map joinPair).map fun x => Itm.fz (sx x)).map itmD))) = _
  rw [hm]
 show evS F (.ite (.var 3) (.frz 3 (.app 1 (.meth "join" (.str (mkS [59,32])) (.cons (.var 3) .nil)) .nil)) .nil .nil) [a,.own (hs.map fun x => .fz (sx x)),.rv (.d (listD ps)),frzSl (.own ((ps.map joinPair).map fun x => .fz (sx x))),x',y'] = _
 rw [f1]
 have ht:truth (.list ((ps.map joinPair).map fun x => sx x)) = true:=by show (!_) = true; rw [hemp]; rfl
 show (if truth (.list ((ps.map joinPair).map fun x => sx x)) then evS F (.frz 3 (.app 1 (.meth "join" (.str (mkS [59,32])) (.cons (.var 3) .nil)) .nil)) [a,.own (hs.map fun x => .fz (sx x)),.rv (.d (listD ps)),.rv (.d (.list ((ps.map joinPair).map fun x => sx x))),x',y'] else _).bind (fun q => match q.1 with
  | none => evS F .nil q.2
  | some d => some (some d,q.2)) = _
 rw [ht,if_pos rfl]
 show ((methD "join" (sx [59,32]) [.list ((ps.map joinPair).map fun x => sx x)]).bind fun d => (onOwn [a,.own (hs.map fun x => .fz (sx x)),.rv (.d (listD ps)),.rv (.d (.list ((ps.map joinPair).map fun x => sx x))),x',y'] 1 fun l => some (l ++ [.fz d])).bind fun σ' => evS F .nil σ').bind _ = _
 rw [hj]
 have ho:onOwn [a,.own (hs.map fun x => Itm.fz (sx x)),.rv (.d (listD ps)),.rv (.d (.list ((ps.map joinPair).map fun x => sx x))),x',y'] 1 (fun l => some (l ++ [Itm.fz (sx (joinRow ps))])) = some [a,.own ((hs ++ [joinRow ps]).map fun x => Itm.fz (sx x)),.rv (.d (listD ps)),.rv (.d (.list ((ps.map joinPair).map fun x => sx x))),x',y']:=by
  show (if ((hs.map fun x => Itm.fz (sx x)) ++ [Itm.fz (sx (joinRow ps))]).length <= big then some [a,.own ((hs.map fun x => Itm.fz (sx x)) ++ [Itm.fz (sx (joinRow ps))]),.rv (.d (listD ps)),.rv (.d (.list ((ps.map joinPair).map fun x => sx x))),x',y'] else none) = _
  rw [if_pos (by rw [List.length_append,List.length_map]; exact h5),List.map_append]; rfl
 show ((onOwn [a,.own (hs.map fun x => Itm.fz (sx x)),.rv (.d (listD ps)),.rv (.d (.list ((ps.map joinPair).map fun x => sx x))),x',y'] 1 fun l => some (l ++ [Itm.fz (sx (joinRow ps))])).bind fun σ' => evS F .nil σ').bind _ = _
 rw [ho]; rfl
theorem rows_loop {F:Str -> List RV -> Option PyData}:∀ (L:List (List PV)) (hs:List (List Nat)) (a b c x y:Sl),(∀ ps ∈ L,rowOk ps) -> hs.length + L.length < big ->
  ∃ b' c' x' y',forD (fun x σ => (bindT 1 x).bind fun tg => evS F bRow (setAll σ [2] tg)) (L.map listD) [a,.own (hs.map fun x => .fz (sx x)),b,c,x,y] = some (none,[a,.own ((hs ++ L.map joinRow).map fun x => .fz (sx x)),b',c',x',y'])
 | [],hs,a,b,c,x,y,_,_ => ⟨b,c,x,y,by simp [forD]⟩
 | ps :: L,hs,a,b,c,x,y,ok,hl => by
  rw [List.length_cons] at hl
  refine xEEE (evS_row (F:=F) (a:=a) (c:=c) (x:=x) (y:=y) (hs:=hs) (ok ps List.mem_cons_self) (by lia)) fun c1 x1 y1 h1 => ?_
  obtain ⟨b2,c2,x2,y2,h2⟩:=rows_loop L (hs ++ [joinRow ps]) a (.rv (.d (listD ps))) c1 x1 y1 (fun q m => ok q (List.mem_cons_of_mem _ m)) (by rw [List.length_append]; show hs.length + 1 + L.length < big; lia)
  refine ⟨b2,c2,x2,y2,?_⟩
  rw [List.map_cons,forD]
  show (evS F bRow [a,.own (hs.map fun x => .fz (sx x)),.rv (.d (listD ps)),c,x,y]).bind _ = _
  rw [h1]
  show forD _ (L.map listD) _ = _
  rw [h2]
  simp
theorem evS_join {F:Str -> List RV -> Option PyData} {L:List (List PV)} (ok:∀ ps ∈ L,rowOk ps) (hl:L.length < big) (hr:(joinAll L).length <= big) :
  ∃ σ',evS F b3_join_header_words [.rv (.d (.list (L.map listD))),.rv .un,.rv .un,.rv .un,.rv .un,.rv .un] = some (some (sx (joinAll L)),σ'):=by
 refine xEEEE (rows_loop (F:=F) L [] (.rv (.d (.list (L.map listD)))) (.rv .un) (.rv .un) (.rv .un) (.rv .un) ok (by simpa using hl)) fun b c x y h => ?_
 have hs':=strsOf_map (L.map joinRow)
 have hm:=itmD_map (L.map joinRow)
 have hj:methD "join" (sx [44,32]) [.list ((L.map joinRow).map fun x => sx x)] = some (sx (joinAll L)):=by
  exact meth_join hs' hr
 have f1:frzSl (.own ((L.map joinRow).map fun x => .fz (sx x))) = .rv (.d (.list ((L.map joinRow).map fun x => sx x))):=by
  show Sl.rv (.d (.list (((L.map joinRow).map fun x => Itm.fz (sx x)).map itmD))) = _
  rw [hm]
 show ∃ σ',(forD (fun x σ => (bindT 1 x).bind fun tg => evS F bRow (setAll σ [2] tg)) (L.map listD) [.rv (.d (.list (L.map listD))),.own (([]:List (List Nat)).map fun x => .fz (sx x)),.rv .un,.rv .un,.rv .un,.rv .un]).bind (fun q => match q.1 with
  | none => evS F (.frz 1 (.ret (.meth "join" (.str (mkS [44,32])) (.cons (.var 1) .nil)))) q.2
  | some d => some (some d,q.2)) = _
 rw [h]
 show ∃ σ',evS F (.ret (.meth "join" (.str (mkS [44,32])) (.cons (.var 1) .nil))) [.rv (.d (.list (L.map listD))),frzSl (.own ((L.map joinRow).map fun x => .fz (sx x))),b,c,x,y] = _
 rw [f1]
 show ∃ σ',(methD "join" (sx [44,32]) [.list ((L.map joinRow).map fun x => sx x)]).map (fun d => (some d,_)) = _
 rw [hj]
 exact ⟨_,rfl⟩
theorem evS_unmatched {F:Str -> List RV -> Option PyData} {x:Str} {hd:Nat} {gr:List (Nat × Nat)} (h:hd <= (tl x).length) (hx:(tl x).length <= 10000) :
  ∃ σ',evS F b3_unmatched [.rv (.mt x 0 hd gr),.rv .un,.rv .un] = some (some (sx ((tl x).drop hd)),σ'):=by
 have c1:cut (tl x) none (some 0) = []:=by
  unfold cut hiOf loOf nSl; simp
 have c2:cut (tl x) (some (hd:Int)) none = (tl x).drop hd:=by
  unfold cut hiOf loOf nSl
  have:¬ ((hd:Int) < 0):=by (simp +arith)
  simp only [if_neg this,Int.toNat_natCast,Nat.min_eq_left h,List.take_length]
 have c3:binD .Add (sx []) (sx ((tl x).drop hd)) = some (sx ((tl x).drop hd)):=by
  show (if (tl (mkS [])).length + (tl (mkS ((tl x).drop hd))).length <= big then some (sx (tl (mkS []) ++ tl (mkS ((tl x).drop hd)))) else none) = _
  have hbig:big = 1000000:=rfl
  have q:(tl (mkS [])).length + (tl (mkS ((tl x).drop hd))).length <= big:=show 0 + ((tl x).drop hd).length <= big by rw [Nat.zero_add]; exact drop_le (Nat.le_trans hx (by decide))
  exact if_pos q
 show ∃ σ',(((some (sx (cut (tl (mkS (tl x))) none (some ((0:Nat):Int))))).bind fun a => (some (sx (cut (tl (mkS (tl x))) (some (hd:Int)) none))).bind fun b => binD .Add a b).map fun d => (some d,_)) = _
 rw [tl_mkS]
 show ∃ σ',((binD .Add (sx (cut (tl x) none (some 0))) (sx (cut (tl x) (some (hd:Int)) none))).map fun d => (some d,_)) = _
 rw [c1,c2,c3]
 exact ⟨_,rfl⟩
noncomputable def bTurn:Bk:=(.srch 5 .tok (.var 2) (.ite (.hasm 5) (.asg 2 (.callm "unmatched" 5) (.asg 6 (.grp 5) (.srch 5 .quo (.var 2) (.ite (.hasm 5) (.asg 2 (.callm "unmatched" 5) (.asg 7 (.grp 5) (.asg 7 (.subL .esc (.var 7)) .nil))) (.srch 5 .val (.var 2) (.ite (.hasm 5) (.asg 2 (.callm "unmatched" 5) (.asg 7 (.grp 5) (.asg 7 (.meth "rstrip" (.var 7) .nil) .nil))) (.asg 7 .none .nil) .nil)) (.app 4 (.tup (.cons (.var 6) (.cons (.var 7) .nil))) .nil))))) (.ite (.meth "startswith" (.meth "lstrip" (.var 2) .nil) (.cons (.str (mkS [44])) .nil)) (.asg 2 (.slc (.meth "lstrip" (.var 2) .nil) (.int 1) .none) (.frz 4 (.ite (.var 4) (.frz 4 (.app 1 (.var 4) .nil)) .nil (.own 4 (.lst .nil) .nil)))) (.unp [8,9] (.subn .junk (.var 2)) (.asrt (.cmp .Gt (.var 9) (.int 0)) (.asg 2 (.var 8) .nil))) .nil) .nil))
theorem turn_quo {F:Str -> List RV -> Option PyData} {a R o m nm vl nj nr:Sl} {t:List Nat} {l:List Itm} {h1 b1 e1 h2 b2 e2:Nat} (ht:t.length <= 10000) (hl:l.length < big)
  (hF:∀ (x:Str) (hd:Nat) gr,hd <= (tl x).length -> (tl x).length <= 10000 -> F "unmatched" [.mt x 0 hd gr] = some (sx ((tl x).drop hd)))
  (hh1:h1 <= t.length) (s1:srchD .tok t.toArray = some (0,h1,[(b1,e1)])) (hh2:h2 <= (t.drop h1).length) (s2:srchD .quo (t.drop h1).toArray = some (0,h2,[(b2,e2)])) :
  ∃ m' nm' vl',evS F bTurn [a,R,.rv (.d (sx t)),o,.own l,m,nm,vl,nj,nr] = some (none,[a,R,.rv (.d (sx ((t.drop h1).drop h2))),o,.own (l ++ [.fz (pairD ((t.drop b1).take (e1 - b1),some (escL (((t.drop h1).drop b2).take (e2 - b2)))))]),m',nm',vl',nj,nr]):=by
 have ht2:(t.drop h1).length <= 10000:=drop_le ht
 have ht3:(((t.drop h1).drop b2).take (e2 - b2)).length <= 10000:=take_le (drop_le ht2)
 have f1:F "unmatched" [.mt (mkS t) 0 h1 [(b1,e1)]] = some (sx (t.drop h1)):=hF (mkS t) h1 [(b1,e1)] hh1 ht
 have f2:F "unmatched" [.mt (mkS (t.drop h1)) 0 h2 [(b2,e2)]] = some (sx ((t.drop h1).drop h2)):=hF (mkS (t.drop h1)) h2 [(b2,e2)] hh2 ht2
 have g1:srchRV .tok (mkS t) = .mt (mkS t) 0 h1 [(b1,e1)]:=by unfold srchRV; rw [show (mkS t).cps = t.toArray from rfl,s1]
 have g2:srchRV .quo (mkS (t.drop h1)) = .mt (mkS (t.drop h1)) 0 h2 [(b2,e2)]:=by unfold srchRV; rw [show (mkS (t.drop h1)).cps = (t.drop h1).toArray from rfl,s2]
 refine ⟨.rv (.mt (mkS (t.drop h1)) 0 h2 [(b2,e2)]),.rv (.d (sx ((t.drop b1).take (e1 - b1)))),.rv (.d (sx (escL (((t.drop h1).drop b2).take (e2 - b2))))),?_⟩
 unfold bTurn
 refine (e_srch (t:=t) rfl ht).trans ?_
 rw [g1]
 refine (e_last_t (d:=.bool true) rfl rfl).trans ?_
 refine (e_asg (d:=sx (t.drop h1)) (by exact f1)).trans ?_
 refine (e_asg (d:=sx ((t.drop b1).take (e1 - b1))) rfl).trans ?_
 refine (e_srch (t:=t.drop h1) rfl ht2).trans ?_
 rw [g2]
 refine (e_ite_t (d:=.bool true) (σ':=[a,R,.rv (.d (sx ((t.drop h1).drop h2))),o,.own l,.rv (.mt (mkS (t.drop h1)) 0 h2 [(b2,e2)]),.rv (.d (sx ((t.drop b1).take (e1 - b1)))),.rv (.d (sx (escL (((t.drop h1).drop b2).take (e2 - b2))))),nj,nr]) rfl rfl ?_).trans (e_app rfl rfl hl)
 refine (e_asg (d:=sx ((t.drop h1).drop h2)) (by exact f2)).trans ?_
 refine (e_asg (d:=sx (((t.drop h1).drop b2).take (e2 - b2))) rfl).trans ?_
 refine (e_asg (d:=sx (escL (((t.drop h1).drop b2).take (e2 - b2)))) (by exact if_pos ht3)).trans ?_
 rfl
theorem turn_junk {F:Str -> List RV -> Option PyData} {a R o ps m nm vl nj nr:Sl} {t:List Nat} (ht:t.length <= 10000) (s1:srchD .tok t.toArray = none)
  (hc:methD "startswith" (sx (t.dropWhile isSp)) [sx [44]] = some (.bool false)) (hj:0 < (t.takeWhile isJunk).length) :
  ∃ m' nj' nr',evS F bTurn [a,R,.rv (.d (sx t)),o,ps,m,nm,vl,nj,nr] = some (none,[a,R,.rv (.d (sx (t.dropWhile isJunk))),o,ps,m',nm,vl,nj',nr']):=by
 have g1:srchRV .tok (mkS t) = .d .none:=by unfold srchRV; rw [show (mkS t).cps = t.toArray from rfl,s1]
 refine ⟨.rv (.d .none),.rv (.d (sx (t.dropWhile isJunk))),.rv (.d (.int 1)),?_⟩
 unfold bTurn
 refine (e_srch (t:=t) rfl ht).trans ?_
 rw [g1]
 refine (e_last_f (d:=.bool false) rfl rfl).trans ?_
 refine (e_last_f (d:=.bool false) (by exact hc) rfl).trans ?_
 have e1:subnP .junk (sx t) = some (.tuple [sx (t.dropWhile isJunk),.int 1]):=by
  show (if (tl (mkS t)).length <= 10000 then (if 0 < (t.takeWhile isJunk).length then some (PyData.tuple [sx (t.dropWhile isJunk),.int 1]) else none) else none) = _
  rw [if_pos (show (tl (mkS t)).length <= 10000 from ht),if_pos hj]
 show ((subnP .junk (sx t)).bind fun d => (bindT 2 d).bind fun tg => evS F (.asrt (.cmp .Gt (.var 9) (.int 0)) (.asg 2 (.var 8) .nil)) (setAll _ [8,9] tg)) = _
 rw [e1]
 rfl
theorem whl_turn {cond:List Sl -> Option PyData} {step:List Sl -> Option Fl} {n:Nat} {σ σ':List Sl} {d:PyData} (hc:cond σ = some d) (ht:truth d = true) (hs:step σ = some (none,σ')):whlD cond step (n + 1) σ = whlD cond step n σ':=by
 rw [whlD,hc]
 show (if truth d = true then (step σ).bind _ else _) = _
 rw [if_pos ht,hs]; rfl
theorem whl_done {cond:List Sl -> Option PyData} {step:List Sl -> Option Fl} {n:Nat} {σ:List Sl} {d:PyData} (hc:cond σ = some d) (ht:truth d = false):whlD cond step (n + 1) σ = some (none,σ):=by
 rw [whlD,hc]
 show (if truth d = true then _ else some (none,σ)) = _
 rw [ht]; rfl
noncomputable def NH (P:Nat -> Bool) (u:List Nat):Prop:=∀ c r,u = c :: r -> P c = false
theorem NH.nil {P:Nat -> Bool}:NH P []:=fun _ _ e => by cases e
theorem NH.cons {P:Nat -> Bool} {c:Nat} {r:List Nat} (h:P c = false):NH P (c :: r):=fun _ _ e => by cases e; exact h
theorem tw_app {P:Nat -> Bool} {w u:List Nat} (hw:∀ c ∈ w,P c = true) (hu:NH P u):(w ++ u).takeWhile P = w:=by
 induction w with
 | nil =>
  cases u with
  | nil => rfl
  | cons c r => rw [List.nil_append,List.takeWhile_cons,hu c r rfl]; rfl
 | cons c w ih => rw [List.cons_append,List.takeWhile_cons,hw c List.mem_cons_self,if_pos rfl,ih fun d m => hw d (List.mem_cons_of_mem _ m)]
theorem dw_app {P:Nat -> Bool} {w u:List Nat} (hw:∀ c ∈ w,P c = true) (hu:NH P u):(w ++ u).dropWhile P = u:=by
 induction w with
 | nil =>
  cases u with
  | nil => rfl
  | cons c r => rw [List.nil_append,List.dropWhile_cons,hu c r rfl]; rfl
 | cons c w ih => rw [List.cons_append,List.dropWhile_cons,hw c List.mem_cons_self,if_pos rfl,ih fun d m => hw d (List.mem_cons_of_mem _ m)]
theorem span_at {P:Nat -> Bool} {t a w u:List Nat} {n q:Nat} (e:t = a ++ (w ++ u)) (hw:∀ c ∈ w,P c = true) (hu:NH P u) (hq:q = a.length) (hn:t.length - q = n):spanLen P t.toArray n q = w.length:=by
 rw [spanLen_list _ _ _ _ (by simpa using hn)]
 show ((t.drop q).takeWhile P).length = _
 rw [e,hq,List.drop_left,tw_app hw hu]
theorem getD_at {t a r:List Nat} {c q:Nat} (e:t = a ++ c :: r) (hq:q = a.length):t.toArray.getD q 0 = c:=by
 subst e hq
 simp
theorem isSp_of_tk {c:Nat} (h:isTk c = true):isSp c = false:=by
 cases hs:isSp c with
 | false => rfl
 | true => unfold isTk at h; rw [hs] at h; simp at h
theorem isTk_of_spc {c:Nat} (h:isSp c = true):isTk c = false:=by unfold isTk; rw [h]; simp
theorem s_tok {w nm rest t:List Nat} (e:t = w ++ (nm ++ rest)) (hw:∀ c ∈ w,isSp c = true) (hn:∀ c ∈ nm,isTk c = true) (h0:nm ≠ []) (hr:NH isTk rest) :
  srchD .tok t.toArray = some (0,w.length + nm.length,[(w.length,w.length + nm.length)]):=by
 have hB:tokB t.toArray = w.length:=by
  unfold tokB
  refine span_at (a:=[]) e hw ?_ rfl rfl
  cases nm with
  | nil => exact (h0 rfl).elim
  | cons c nm => exact .cons (isSp_of_tk (hn c List.mem_cons_self))
 have hN:tokN t.toArray = nm.length:=by
  unfold tokN
  rw [hB]
  exact span_at e hn hr rfl rfl
 unfold srchD
 rw [hB,hN]
 have:nm.length ≠ 0:=fun q => h0 (List.length_eq_zero_iff.mp q)
 exact if_neg this
theorem s_tok_no {w u t:List Nat} (e:t = w ++ u) (hw:∀ c ∈ w,isSp c = true) (hs:NH isSp u) (hu:NH isTk u):srchD .tok t.toArray = none:=by
 have hB:tokB t.toArray = w.length:=by
  unfold tokB
  exact span_at (a:=[]) e hw hs rfl rfl
 have hN:tokN t.toArray = 0:=by
  unfold tokN
  rw [hB]
  exact span_at (w:=[]) e (fun _ m => nomatch m) hu rfl rfl
 unfold srchD
 rw [hN]; rfl
theorem isSp61:isSp 61 = false:=by decide +kernel
theorem isSp34:isSp 34 = false:=by decide +kernel
theorem valE_at {w1 r t:List Nat} (e:t = w1 ++ 61 :: r) (h1:∀ c ∈ w1,isSp c = true):valE t.toArray = w1.length:=by
 unfold valE
 exact span_at (a:=[]) e h1 (.cons isSp61) rfl rfl
theorem hasEq_at {w1 r t:List Nat} (e:t = w1 ++ 61 :: r) (h1:∀ c ∈ w1,isSp c = true):hasEq t.toArray = true:=by
 unfold hasEq
 rw [valE_at e h1,getD_at e rfl,e]
 simp
theorem hasEq_no {w1 u t:List Nat} (e:t = w1 ++ u) (h1:∀ c ∈ w1,isSp c = true) (hs:NH isSp u) (hu:NH (· == 61) u):hasEq t.toArray = false:=by
 have hB:valE t.toArray = w1.length:=by
  unfold valE
  exact span_at (a:=[]) e h1 hs rfl rfl
 unfold hasEq
 rw [hB]
 cases u with
 | nil => rw [e]; simp
 | cons c r =>
  rw [getD_at e rfl,show (c == 61) = false from hu c r rfl,Bool.and_false]
theorem s_val {w1 w2 v rest t:List Nat} (e:t = w1 ++ 61 :: (w2 ++ (v ++ rest))) (h1:∀ c ∈ w1,isSp c = true) (h2:∀ c ∈ w2,isSp c = true) (hs:NH isSp (v ++ rest)) (hv:∀ c ∈ v,isV c = true) (hr:NH isV rest) :
  srchD .val t.toArray = some (0,w1.length + 1 + w2.length + v.length,[(w1.length + 1 + w2.length,w1.length + 1 + w2.length + v.length)]):=by
 have hB:valB t.toArray = w1.length + 1 + w2.length:=by
  unfold valB
  rw [valE_at e h1,span_at (t:=t) (n:=t.toArray.size - (w1.length + 1)) (q:=w1.length + 1) (a:=w1 ++ [61]) (w:=w2) (u:=v ++ rest) (by rw [e]; simp) h2 hs (by simp) rfl]
 have hN:valN t.toArray = v.length:=by
  unfold valN
  rw [hB]
  exact span_at (a:=w1 ++ 61 :: w2) (by rw [e]; simp) hv hr (by simp; (simp +arith)) rfl
 unfold srchD
 rw [hasEq_at e h1,hB,hN]; rfl
theorem s_val_no {w1 u t:List Nat} (e:t = w1 ++ u) (h1:∀ c ∈ w1,isSp c = true) (hs:NH isSp u) (hu:NH (· == 61) u):srchD .val t.toArray = none:=by
 unfold srchD
 rw [hasEq_no e h1 hs hu]; rfl
theorem s_quo_no_eq {w1 u t:List Nat} (e:t = w1 ++ u) (h1:∀ c ∈ w1,isSp c = true) (hs:NH isSp u) (hu:NH (· == 61) u):srchD .quo t.toArray = none:=by
 have:quoC t.toArray = none:=by
  unfold quoC hasQ
  rw [hasEq_no e h1 hs hu]; rfl
 unfold srchD
 rw [this]
theorem quoE_at {w1 w2 r t:List Nat} (e:t = w1 ++ 61 :: (w2 ++ r)) (h1:∀ c ∈ w1,isSp c = true) (h2:∀ c ∈ w2,isSp c = true) (hs:NH isSp r):quoE t.toArray = w1.length + 1 + w2.length:=by
 unfold quoE
 rw [valE_at e h1,span_at (t:=t) (n:=t.toArray.size - (w1.length + 1)) (q:=w1.length + 1) (a:=w1 ++ [61]) (w:=w2) (u:=r) (by rw [e]; simp) h2 hs (by simp) rfl]
theorem s_quo_no_mark {w1 w2 u t:List Nat} (e:t = w1 ++ 61 :: (w2 ++ u)) (h1:∀ c ∈ w1,isSp c = true) (h2:∀ c ∈ w2,isSp c = true) (hs:NH isSp u) (hu:NH (· == 34) u):srchD .quo t.toArray = none:=by
 have hE:=quoE_at e h1 h2 hs
 have:quoC t.toArray = none:=by
  unfold quoC hasQ
  rw [hE]
  cases u with
  | nil => rw [decide_eq_false (by rw [e]; simp; (simp +arith))]; simp
  | cons c r =>
   rw [getD_at (a:=w1 ++ 61 :: w2) (r:=r) (c:=c) (by rw [e]; simp) (by simp; (simp +arith)),show (c == 34) = false from hu c r rfl,Bool.and_false]; rfl
 unfold srchD
 rw [this]
noncomputable def qb:List Nat -> Bool
 | [] => true
 | [c] => isQ c
 | c :: e :: r => if c = 92 then e != 10 && qb r else isQ c && qb (e :: r)
theorem qb_plain {c:Nat} (r:List Nat) (h:isQ c = true):qb (c :: r) = qb r:=by
 cases r with
 | nil => simp [qb,h]
 | cons e r =>
  rw [qb,if_neg (fun e => by subst e; simp [isQ] at h),h]; rfl
theorem qb_plains:∀ {w:List Nat} {r:List Nat},(∀ c ∈ w,isQ c = true) -> qb (w ++ r) = qb r
 | [],_,_ => rfl
 | c :: w,r,h => by rw [List.cons_append,qb_plain _ (h c List.mem_cons_self),qb_plains fun d m => h d (List.mem_cons_of_mem _ m)]
theorem qb_esc (c:Nat) (r:List Nat) (h:c ≠ 10):qb (92 :: c :: r) = qb r:=by
 rw [qb,if_pos rfl]; simp [h]
theorem tw_all {P:Nat -> Bool} (l:List Nat):∀ c ∈ l.takeWhile P,P c = true:=fun c m => by
 induction l with
 | nil => cases m
 | cons d l ih =>
  rw [List.takeWhile_cons] at m
  cases h:P d with
  | false => rw [h] at m; cases m
  | true =>
   rw [h,if_pos rfl] at m
   rcases List.mem_cons.mp m with rfl | m
   ·exact h
   ·exact ih m
theorem dw_nh {P:Nat -> Bool} (l:List Nat):NH P (l.dropWhile P):=fun c r e => by
 induction l with
 | nil => cases e
 | cons d l ih =>
  rw [List.dropWhile_cons] at e
  cases h:P d with
  | false => rw [h] at e; cases e; exact h
  | true => rw [h,if_pos rfl] at e; exact ih e
theorem qClose_gen {z t:List Nat} {o:Option Nat} {L:Nat} (hz:∀ n,qClose t.toArray (n + 1) L = o) (hx:NH isQ z) (h0:z ≠ []):∀ (n:Nat) (a v:List Nat),t = a ++ (v ++ z) -> a.length + v.length = L -> v.length < n -> qb v = true -> qClose t.toArray n (a.length + (v.takeWhile isQ).length) = o:=by
 intro n
 induction n with
 | zero => intro a v _ _ h _; exact absurd h (Nat.not_lt_zero _)
 | succ n ih =>
  intro a v e hL hl hq
  have hsplit:v.takeWhile isQ ++ v.dropWhile isQ = v:=List.takeWhile_append_dropWhile
  have hpl:=tw_all (P:=isQ) v
  have hnh:=dw_nh (P:=isQ) v
  generalize hw:v.takeWhile isQ = w at hsplit hpl ⊢
  generalize hu:v.dropWhile isQ = u at hsplit hnh
  subst hsplit
  rw [qb_plains hpl] at hq
  cases u with
  | nil => rw [List.append_nil] at hL; rw [hL]; exact hz n
  | cons c u =>
   have hc:=hnh c u rfl
   have hlt:a.length + w.length < t.toArray.size:=by rw [e]; simp
   rw [qClose_succ,if_pos hlt,getD_at (a:=a ++ w) (c:=c) (r:=u ++ z) (by rw [e]; simp) (by simp)]
   have hc':c = 34 \/ c = 92:=by unfold isQ at hc; simp at hc; by_cases h:c = 34 <;> simp_all
   rcases hc' with rfl | rfl
   ·cases u with
    | nil => simp [qb,isQ] at hq
    | cons d u => simp [qb,isQ] at hq
   ·cases u with
    | nil => simp [qb,isQ] at hq
    | cons d u =>
     rw [qb,if_pos rfl] at hq
     simp at hq
     rw [if_neg (by decide),getD_at (a:=a ++ w ++ [92]) (c:=d) (r:=u ++ z) (by rw [e]; simp) (by simp; (rfl)),if_pos ⟨rfl,by rw [e]; simp; (simp +arith),hq.1⟩]
     have h3:=ih (a ++ w ++ [92,d]) u (by rw [e]; simp) (by rw [<- hL]; simp; (simp +arith)) (by simp at hl; lia) hq.2
     have e1:(a ++ w ++ [92,d]).length = a.length + w.length + 2:=by simp; (rfl)
     rw [e1] at h3
     rw [span_at (t:=t) (n:=t.toArray.size - (a.length + w.length + 2)) (q:=a.length + w.length + 2) (a:=a ++ w ++ [92,d]) (w:=u.takeWhile isQ) (u:=u.dropWhile isQ ++ z) (by rw [e,<- List.append_assoc (u.takeWhile isQ),List.takeWhile_append_dropWhile]; simp) (tw_all u) (fun c r q => ?_) e1.symm rfl,h3]
     cases hd:u.dropWhile isQ with
     | nil => rw [hd] at q; exact hx c r q
     | cons x y => rw [hd] at q; cases q; exact dw_nh u _ _ hd
theorem qClose_at {rest t:List Nat} (n:Nat) (a v:List Nat) (e:t = a ++ (v ++ 34 :: rest)) (hl:v.length < n) (hq:qb v = true):qClose t.toArray n (a.length + (v.takeWhile isQ).length) = some (a.length + v.length):=by
 refine qClose_gen (fun n => ?_) (.cons rfl) (List.cons_ne_nil _ _) n a v e rfl hl hq
 rw [qClose_succ,if_pos (by rw [e]; simp),getD_at (a:=a ++ v) (c:=34) (r:=rest) (by rw [e]; simp) (by simp),if_pos rfl]
theorem qClose_bad {rest t:List Nat} (n:Nat) (a v:List Nat) (e:t = a ++ (v ++ 92 :: 10 :: rest)) (hl:v.length < n) (hq:qb v = true):qClose t.toArray n (a.length + (v.takeWhile isQ).length) = none:=by
 refine qClose_gen (fun n => ?_) (.cons rfl) (List.cons_ne_nil _ _) n a v e rfl hl hq
 rw [qClose_succ,if_pos (by rw [e]; simp),getD_at (a:=a ++ v) (c:=92) (r:=10 :: rest) (by rw [e]; simp) (by simp),if_neg (by decide),getD_at (a:=a ++ v ++ [92]) (c:=10) (r:=rest) (by rw [e]; simp) (by simp; (rfl)),if_neg (fun q => q.2.2 rfl)]
theorem quoC_at {w1 w2 v z t:List Nat} {o:Option Nat} (e:t = w1 ++ 61 :: (w2 ++ 34 :: (v ++ z))) (h1:∀ c ∈ w1,isSp c = true) (h2:∀ c ∈ w2,isSp c = true) (hx:NH isQ z)
  (hc:qClose t.toArray (t.toArray.size + 1) ((w1 ++ 61 :: (w2 ++ [34])).length + (v.takeWhile isQ).length) = o):quoC t.toArray = o /\ quoB t.toArray = w1.length + 1 + w2.length + 1:=by
 have hE:=quoE_at e h1 h2 (.cons isSp34)
 have hB:quoB t.toArray = w1.length + 1 + w2.length + 1:=by unfold quoB; rw [hE]
 have hQ:hasQ t.toArray = true:=by
  unfold hasQ
  rw [hasEq_at e h1,hE,getD_at (a:=w1 ++ 61 :: w2) (c:=34) (r:=v ++ z) (by rw [e]; simp) (by simp; (simp +arith)),e]
  simp; (simp +arith)
 have e2:t = (w1 ++ 61 :: (w2 ++ [34])) ++ (v ++ z):=by rw [e]; simp
 have el:(w1 ++ 61 :: (w2 ++ [34])).length = w1.length + 1 + w2.length + 1:=by simp; (simp +arith)
 refine ⟨?_,hB⟩
 unfold quoC
 rw [hQ,if_pos rfl,hB]
 rw [span_at (t:=t) (n:=t.toArray.size - (w1.length + 1 + w2.length + 1)) (q:=w1.length + 1 + w2.length + 1) (a:=w1 ++ 61 :: (w2 ++ [34])) (w:=v.takeWhile isQ) (u:=v.dropWhile isQ ++ z) (by rw [e2,<- List.append_assoc (v.takeWhile isQ),List.takeWhile_append_dropWhile]) (tw_all v) (fun c r q => ?_) el.symm rfl,<- el]
 ·exact hc
 ·cases hd:v.dropWhile isQ with
  | nil => rw [hd] at q; exact hx c r q
  | cons x y => rw [hd] at q; cases q; exact dw_nh v _ _ hd
theorem s_quo {w1 w2 v rest t:List Nat} (e:t = w1 ++ 61 :: (w2 ++ 34 :: (v ++ 34 :: rest))) (h1:∀ c ∈ w1,isSp c = true) (h2:∀ c ∈ w2,isSp c = true) (hv:qb v = true) :
  srchD .quo t.toArray = some (0,w1.length + 1 + w2.length + 1 + v.length + 1,[(w1.length + 1 + w2.length + 1,w1.length + 1 + w2.length + 1 + v.length)]):=by
 have e2:t = (w1 ++ 61 :: (w2 ++ [34])) ++ (v ++ 34 :: rest):=by rw [e]; simp
 have el:(w1 ++ 61 :: (w2 ++ [34])).length = w1.length + 1 + w2.length + 1:=by simp; (simp +arith)
 obtain ⟨hC,hB⟩:=quoC_at e h1 h2 (.cons rfl) (qClose_at (t.toArray.size + 1) (w1 ++ 61 :: (w2 ++ [34])) v e2 (by rw [e2]; simp; (simp +arith)) hv)
 rw [el] at hC
 unfold srchD
 rw [hC,hB]
theorem s_quo_bad {w1 w2 v rest t:List Nat} (e:t = w1 ++ 61 :: (w2 ++ 34 :: (v ++ 92 :: 10 :: rest))) (h1:∀ c ∈ w1,isSp c = true) (h2:∀ c ∈ w2,isSp c = true) (hv:qb v = true):srchD .quo t.toArray = none:=by
 have e2:t = (w1 ++ 61 :: (w2 ++ [34])) ++ (v ++ 92 :: 10 :: rest):=by rw [e]; simp
 obtain ⟨hC,_⟩:=quoC_at e h1 h2 (.cons rfl) (qClose_bad (t.toArray.size + 1) (w1 ++ 61 :: (w2 ++ [34])) v e2 (by rw [e2]; simp; (simp +arith)) hv)
 unfold srchD
 rw [hC]
theorem m_lstrip (t:List Nat):methD "lstrip" (sx t) [] = some (sx (t.dropWhile isSp)):=by rfl
theorem m_rstrip (t:List Nat):methD "rstrip" (sx t) [] = some (sx (t.reverse.dropWhile isSp).reverse):=by rfl
theorem m_starts (p t:List Nat):methD "startswith" (sx t) [sx p] = some (.bool (p.isPrefixOf t)):=by rfl
section
variable {F:Str -> List RV -> Option PyData} {a o m nm vl nj nr:Sl} {t:List Nat}
noncomputable def UnmOk (F:Str -> List RV -> Option PyData):Prop:=∀ (x:Str) (hd:Nat) gr,hd <= (tl x).length -> (tl x).length <= 10000 -> F "unmatched" [.mt x 0 hd gr] = some (sx ((tl x).drop hd))
theorem turn_val {R:Sl} {l:List Itm} {h1 b1 e1 h2 b2 e2:Nat} (ht:t.length <= 10000) (hl:l.length < big) (hF:UnmOk F)
  (hh1:h1 <= t.length) (s1:srchD .tok t.toArray = some (0,h1,[(b1,e1)])) (hh2:h2 <= (t.drop h1).length) (s2:srchD .quo (t.drop h1).toArray = none) (s3:srchD .val (t.drop h1).toArray = some (0,h2,[(b2,e2)])) :
  ∃ m' nm' vl',evS F bTurn [a,R,.rv (.d (sx t)),o,.own l,m,nm,vl,nj,nr] = some (none,[a,R,.rv (.d (sx ((t.drop h1).drop h2))),o,.own (l ++ [.fz (pairD ((t.drop b1).take (e1 - b1),some ((((t.drop h1).drop b2).take (e2 - b2)).reverse.dropWhile isSp).reverse))]),m',nm',vl',nj,nr]):=by
 have ht2:(t.drop h1).length <= 10000:=drop_le ht
 have f1:F "unmatched" [.mt (mkS t) 0 h1 [(b1,e1)]] = some (sx (t.drop h1)):=hF (mkS t) h1 [(b1,e1)] hh1 ht
 have f2:F "unmatched" [.mt (mkS (t.drop h1)) 0 h2 [(b2,e2)]] = some (sx ((t.drop h1).drop h2)):=hF (mkS (t.drop h1)) h2 [(b2,e2)] hh2 ht2
 have g1:srchRV .tok (mkS t) = .mt (mkS t) 0 h1 [(b1,e1)]:=by unfold srchRV; rw [show (mkS t).cps = t.toArray from rfl,s1]
 have g2:srchRV .quo (mkS (t.drop h1)) = .d .none:=by unfold srchRV; rw [show (mkS (t.drop h1)).cps = (t.drop h1).toArray from rfl,s2]
 have g3:srchRV .val (mkS (t.drop h1)) = .mt (mkS (t.drop h1)) 0 h2 [(b2,e2)]:=by unfold srchRV; rw [show (mkS (t.drop h1)).cps = (t.drop h1).toArray from rfl,s3]
 generalize hv:((((t.drop h1).drop b2).take (e2 - b2)).reverse.dropWhile isSp).reverse = vv
 refine ⟨.rv (.mt (mkS (t.drop h1)) 0 h2 [(b2,e2)]),.rv (.d (sx ((t.drop b1).take (e1 - b1)))),.rv (.d (sx vv)),?_⟩
 unfold bTurn
 refine (e_srch (t:=t) rfl ht).trans ?_
 rw [g1]
 refine (e_last_t (d:=.bool true) rfl rfl).trans ?_
 refine (e_asg (d:=sx (t.drop h1)) (by exact f1)).trans ?_
 refine (e_asg (d:=sx ((t.drop b1).take (e1 - b1))) rfl).trans ?_
 refine (e_srch (t:=t.drop h1) rfl ht2).trans ?_
 rw [g2]
 refine (e_ite_f (d:=.bool false) (σ':=[a,R,.rv (.d (sx ((t.drop h1).drop h2))),o,.own l,.rv (.mt (mkS (t.drop h1)) 0 h2 [(b2,e2)]),.rv (.d (sx ((t.drop b1).take (e1 - b1)))),.rv (.d (sx vv)),nj,nr]) rfl rfl ?_).trans (e_app rfl rfl hl)
 refine (e_srch (t:=t.drop h1) rfl ht2).trans ?_
 rw [g3]
 refine (e_last_t (d:=.bool true) rfl rfl).trans ?_
 refine (e_asg (d:=sx ((t.drop h1).drop h2)) (by exact f2)).trans ?_
 refine (e_asg (d:=sx (((t.drop h1).drop b2).take (e2 - b2))) rfl).trans ?_
 refine (e_asg (d:=sx vv) (by rw [<- hv]; exact m_rstrip _)).trans ?_
 rfl
theorem turn_tok {R:Sl} {l:List Itm} {h1 b1 e1:Nat} (ht:t.length <= 10000) (hl:l.length < big) (hF:UnmOk F)
  (hh1:h1 <= t.length) (s1:srchD .tok t.toArray = some (0,h1,[(b1,e1)])) (s2:srchD .quo (t.drop h1).toArray = none) (s3:srchD .val (t.drop h1).toArray = none) :
  ∃ m' nm' vl',evS F bTurn [a,R,.rv (.d (sx t)),o,.own l,m,nm,vl,nj,nr] = some (none,[a,R,.rv (.d (sx (t.drop h1))),o,.own (l ++ [.fz (pairD ((t.drop b1).take (e1 - b1),none))]),m',nm',vl',nj,nr]):=by
 have ht2:(t.drop h1).length <= 10000:=drop_le ht
 have f1:F "unmatched" [.mt (mkS t) 0 h1 [(b1,e1)]] = some (sx (t.drop h1)):=hF (mkS t) h1 [(b1,e1)] hh1 ht
 have g1:srchRV .tok (mkS t) = .mt (mkS t) 0 h1 [(b1,e1)]:=by unfold srchRV; rw [show (mkS t).cps = t.toArray from rfl,s1]
 have g2:srchRV .quo (mkS (t.drop h1)) = .d .none:=by unfold srchRV; rw [show (mkS (t.drop h1)).cps = (t.drop h1).toArray from rfl,s2]
 have g3:srchRV .val (mkS (t.drop h1)) = .d .none:=by unfold srchRV; rw [show (mkS (t.drop h1)).cps = (t.drop h1).toArray from rfl,s3]
 refine ⟨.rv (.d .none),.rv (.d (sx ((t.drop b1).take (e1 - b1)))),.rv (.d .none),?_⟩
 unfold bTurn
 refine (e_srch (t:=t) rfl ht).trans ?_
 rw [g1]
 refine (e_last_t (d:=.bool true) rfl rfl).trans ?_
 refine (e_asg (d:=sx (t.drop h1)) (by exact f1)).trans ?_
 refine (e_asg (d:=sx ((t.drop b1).take (e1 - b1))) rfl).trans ?_
 refine (e_srch (t:=t.drop h1) rfl ht2).trans ?_
 rw [g2]
 refine (e_ite_f (d:=.bool false) (σ':=[a,R,.rv (.d (sx (t.drop h1))),o,.own l,.rv (.d .none),.rv (.d (sx ((t.drop b1).take (e1 - b1)))),.rv (.d .none),nj,nr]) rfl rfl ?_).trans (e_app rfl rfl hl)
 refine (e_srch (t:=t.drop h1) rfl ht2).trans ?_
 rw [g3]
 refine (e_last_f (d:=.bool false) rfl rfl).trans ?_
 rfl
noncomputable abbrev oP (ps:List PV):Sl:=.own (ps.map fun p => .fz (pairD p))
noncomputable abbrev oR (R:List (List PV)):Sl:=.own (R.map fun ps => .fz (listD ps))
theorem frz_oP (ps:List PV):frzSl (oP ps) = .rv (.d (listD ps)):=by
 show Sl.rv (.d (.list ((ps.map fun p => Itm.fz (pairD p)).map itmD))) = _
 rw [List.map_map]; rfl
theorem frz_oR (R:List (List PV)):frzSl (oR R) = .rv (.d (.list (R.map listD))):=by
 show Sl.rv (.d (.list ((R.map fun p => Itm.fz (listD p)).map itmD))) = _
 rw [List.map_map]; rfl
noncomputable def put (ps:List PV) (R:List (List PV)):List (List PV):=if ps.isEmpty then R else R ++ [ps]
noncomputable def bPut (r:Bk):Bk:=.frz 4 (.ite (.var 4) (.frz 4 (.app 1 (.var 4) .nil)) .nil r)
theorem e_put {r:Bk} {x:Sl} {ps:List PV} {R:List (List PV)} (hR:R.length < big) :
  ∃ p',evS F (bPut r) [a,oR R,x,o,oP ps,m,nm,vl,nj,nr] = evS F r [a,oR (put ps R),x,o,p',m,nm,vl,nj,nr]:=by
 refine ⟨.rv (.d (listD ps)),?_⟩
 unfold bPut
 show evS F (.ite (.var 4) (.frz 4 (.app 1 (.var 4) .nil)) .nil r) [a,oR R,x,o,frzSl (oP ps),m,nm,vl,nj,nr] = _
 rw [frz_oP]
 cases ps with
 | nil =>
  refine (e_ite_f (d:=listD []) (σ':=[a,oR R,x,o,.rv (.d (listD [])),m,nm,vl,nj,nr]) rfl rfl rfl)
 | cons p ps =>
  refine (e_ite_t (d:=listD (p :: ps)) (σ':=[a,oR (R ++ [p :: ps]),x,o,.rv (.d (listD (p :: ps))),m,nm,vl,nj,nr]) rfl rfl ?_).trans ?_
  ·show evS F (.app 1 (.var 4) .nil) [a,oR R,x,o,.rv (.d (listD (p :: ps))),m,nm,vl,nj,nr] = _
   refine (e_app (l:=R.map fun ps => .fz (listD ps)) (d:=listD (p :: ps)) rfl rfl (by rw [List.length_map]; exact hR)).trans ?_
   show some ((none:Option PyData),[a,Sl.own ((R.map fun ps => .fz (listD ps)) ++ [.fz (listD (p :: ps))]),x,o,.rv (.d (listD (p :: ps))),m,nm,vl,nj,nr]) = _
   rw [oR,List.map_append]; rfl
  ·rfl
theorem turn_comma {rest:List Nat} {ps:List PV} {R:List (List PV)} (ht:t.length <= 10000) (s1:srchD .tok t.toArray = none) (hc:t.dropWhile isSp = 44 :: rest) (hR:R.length < big) :
  ∃ m',evS F bTurn [a,oR R,.rv (.d (sx t)),o,oP ps,m,nm,vl,nj,nr] = some (none,[a,oR (put ps R),.rv (.d (sx rest)),o,oP [],m',nm,vl,nj,nr]):=by
 have g1:srchRV .tok (mkS t) = .d .none:=by unfold srchRV; rw [show (mkS t).cps = t.toArray from rfl,s1]
 refine ⟨.rv (.d .none),?_⟩
 unfold bTurn
 refine (e_srch (t:=t) rfl ht).trans ?_
 rw [g1]
 refine (e_last_f (d:=.bool false) rfl rfl).trans ?_
 refine (e_last_t (d:=.bool true) ?_ rfl).trans ?_
 ·show ((methD "lstrip" (sx t) []).bind fun x => methD "startswith" x [sx [44]]) = _
  rw [m_lstrip]
  show methD "startswith" (sx (t.dropWhile isSp)) [sx [44]] = _
  rw [m_starts,hc]; rfl
 have ec:cut (44 :: rest) (some 1) none = rest:=by
  unfold cut hiOf loOf nSl
  rw [List.take_length]
  simp
 refine (e_asg (d:=sx rest) ?_).trans ?_
 ·show ((methD "lstrip" (sx t) []).bind fun x => slcD x (some 1) none) = _
  rw [m_lstrip,hc]
  show some (sx (cut (44 :: rest) (some 1) none)) = _
  rw [ec]
 obtain ⟨p',hp⟩:=e_put (F:=F) (a:=a) (o:=o) (m:=.rv (.d .none)) (nm:=nm) (vl:=vl) (nj:=nj) (nr:=nr) (r:=.own 4 (.lst .nil) .nil) (x:=.rv (.d (sx rest))) (ps:=ps) hR
 exact hp.trans rfl
end
inductive Reads':List Nat -> List PV -> List (List PV) -> List (List PV) -> Prop
 | done {ps R}:Reads' [] ps R (put ps R)
 | quo {t w nm w1 w2 v rest ps R L} (e:t = w ++ (nm ++ (w1 ++ 61 :: (w2 ++ 34 :: (v ++ 34 :: rest))))) (hw:∀ c ∈ w,isSp c = true) (hn:∀ c ∈ nm,isTk c = true) (h0:nm ≠ []) (h1:∀ c ∈ w1,isSp c = true) (h2:∀ c ∈ w2,isSp c = true) (hv:qb v = true)
   (r:Reads' rest (ps ++ [(nm,some (escL v))]) R L):Reads' t ps R L
 | open {t w nm w1 w2 v rest ps R L} (e:t = w ++ (nm ++ (w1 ++ 61 :: (w2 ++ (v ++ rest))))) (hw:∀ c ∈ w,isSp c = true) (hn:∀ c ∈ nm,isTk c = true) (h0:nm ≠ []) (h1:∀ c ∈ w1,isSp c = true) (h2:∀ c ∈ w2,isSp c = true)
   (hs:NH isSp (v ++ rest)) (hq:srchD .quo (w1 ++ 61 :: (w2 ++ (v ++ rest))).toArray = none) (hv:∀ c ∈ v,isV c = true) (hr:NH isV rest) (r:Reads' rest (ps ++ [(nm,some v)]) R L):Reads' t ps R L
 | tok {t w nm w1 rest ps R L} (e:t = w ++ (nm ++ (w1 ++ rest))) (hw:∀ c ∈ w,isSp c = true) (hn:∀ c ∈ nm,isTk c = true) (h0:nm ≠ []) (h1:∀ c ∈ w1,isSp c = true) (hs:NH isSp rest) (hq:NH (· == 61) rest) (hr:NH isTk (w1 ++ rest))
   (r:Reads' (w1 ++ rest) (ps ++ [(nm,none)]) R L):Reads' t ps R L
 | comma {t w rest ps R L} (e:t = w ++ 44 :: rest) (hw:∀ c ∈ w,isSp c = true) (r:Reads' rest [] (put ps R) L):Reads' t ps R L
 | junk {t w c j rest ps R L} (e:t = w ++ c :: (j ++ rest)) (hw:∀ c ∈ w,isSp c = true) (hc:c = 61 \/ c = 59) (hj:∀ c ∈ j,isJunk c = true) (hr:NH isJunk rest) (r:Reads' rest ps R L):Reads' t ps R L
 | blank {t ps R} (hw:∀ c ∈ t,isSp c = true) (h0:t ≠ []):Reads' t ps R (put ps R)
theorem Reads'.val {t w nm w1 w2 v rest ps R L} (e:t = w ++ (nm ++ (w1 ++ 61 :: (w2 ++ (v ++ rest))))) (hw:∀ c ∈ w,isSp c = true) (hn:∀ c ∈ nm,isTk c = true) (h0:nm ≠ []) (h1:∀ c ∈ w1,isSp c = true) (h2:∀ c ∈ w2,isSp c = true)
   (hs:NH isSp (v ++ rest)) (hq:NH (· == 34) (v ++ rest)) (hv:∀ c ∈ v,isV c = true) (hr:NH isV rest) (r:Reads' rest (ps ++ [(nm,some v)]) R L):Reads' t ps R L:=
 .open e hw hn h0 h1 h2 hs (s_quo_no_mark rfl h1 h2 hs hq) hv hr r
theorem isV_sp {c:Nat} (h:isV c = true):isSp c = false:=by
 cases hs:isSp c with
 | false => rfl
 | true => unfold isV at h; rw [hs] at h; simp at h
theorem rstrip_v {v:List Nat} (hv:∀ c ∈ v,isV c = true):(v.reverse.dropWhile isSp).reverse = v:=by
 cases h:v.reverse with
 | nil => simp at h; subst h; rfl
 | cons c r =>
  have hc:c ∈ v:=by rw [<- List.mem_reverse,h]; exact List.mem_cons_self
  rw [List.dropWhile_cons,isV_sp (hv c hc),if_neg (by decide),<- h,List.reverse_reverse]
theorem nh_eq {w1 r:List Nat} (h1:∀ c ∈ w1,isSp c = true):NH isTk (w1 ++ 61 :: r):=fun c q e => by
 cases w1 with
 | nil => cases e; rfl
 | cons d w => cases e; exact isTk_of_spc (h1 c List.mem_cons_self)
theorem sp_junk {c:Nat} (h:isSp c = true):isJunk c = true:=by unfold isJunk; rw [h]; simp
theorem sp44:isSp 44 = false:=by decide +kernel
section
variable {F:Str -> List RV -> Option PyData} {a o m nm vl nj nr:Sl} {t:List Nat}
noncomputable def cT (F:Str -> List RV -> Option PyData):List Sl -> Option PyData:=fun σ => evE F (.var 2) (rvs σ)
theorem mid {t a b c:List Nat} {i j:Nat} (e:t = a ++ (b ++ c)) (hi:i = a.length) (hj:j = b.length):(t.drop i).take j = b:=by
 subst e hi hj; simp
theorem dr {t a c:List Nat} {i:Nat} (e:t = a ++ c) (hi:i = a.length):t.drop i = c:=by
 subst e hi; simp
theorem tr_ne {t:List Nat} (h:t ≠ []):truth (sx t) = true:=by
 cases t with
 | nil => exact (h rfl).elim
 | cons _ _ => rfl
noncomputable def RW (F:Str -> List RV -> Option PyData) (a o:Sl) (t:List Nat) (ps:List PV) (R L:List (List PV)):Prop:=
 ∀ (n:Nat) (m nm vl nj nr:Sl),t.length < n -> t.length <= 10000 -> ps.length + t.length < big -> R.length + t.length < big ->
  ∃ ps' R' m' nm' vl' nj' nr',whlD (cT F) (evS F bTurn) n [a,oR R,.rv (.d (sx t)),o,oP ps,m,nm,vl,nj,nr] = some (none,[a,oR R',.rv (.d (sx [])),o,oP ps',m',nm',vl',nj',nr']) /\ L = put ps' R' /\ R'.length < big
noncomputable def TN (F:Str -> List RV -> Option PyData) (a o:Sl) (t:List Nat) (ps:List PV) (R:List (List PV)) (t2:List Nat) (ps2:List PV) (R2:List (List PV)):Prop:=
 ∀ m nm vl nj nr,t.length <= 10000 -> ps.length < big -> R.length < big -> ∃ m' nm' vl' nj' nr',evS F bTurn [a,oR R,.rv (.d (sx t)),o,oP ps,m,nm,vl,nj,nr] = some (none,[a,oR R2,.rv (.d (sx t2)),o,oP ps2,m',nm',vl',nj',nr'])
theorem RW.step {t t2:List Nat} {ps ps2:List PV} {R R2 L:List (List PV)} (tn:TN F a o t ps R t2 ps2 R2) (h1:t2.length < t.length) (h2:ps2.length <= ps.length + 1) (h3:R2.length <= R.length + 1) (ih:RW F a o t2 ps2 R2 L):RW F a o t ps R L:=by
 intro n m nm vl nj nr hn ht hp hR
 cases n with
 | zero => exact absurd hn (Nat.not_lt_zero _)
 | succ n =>
  refine xEEEEE (tn m nm vl nj nr ht (Nat.lt_of_le_of_lt (Nat.le_add_right _ _) hp) (Nat.lt_of_le_of_lt (Nat.le_add_right _ _) hR)) fun m' nm' vl' nj' nr' h => ?_
  have:=ih n m' nm' vl' nj' nr' (Nat.lt_of_lt_of_le h1 (Nat.le_of_lt_succ hn)) (by (exact Nat.le_trans (Nat.le_of_lt (by assumption)) (by assumption))) (by lia) (by lia)
  rw [<- whl_turn (d:=sx t) rfl (tr_ne fun e => by subst e; cases h1) h] at this
  exact this
theorem oP_snoc (ps:List PV) (p:PV):Sl.own ((ps.map fun p => Itm.fz (pairD p)) ++ [.fz (pairD p)]) = oP (ps ++ [p]):=by rw [oP,List.map_append]; rfl
theorem len_pos {l:List Nat} (h:l ≠ []):0 < l.length:=Nat.pos_of_ne_zero fun q => h (List.length_eq_zero_iff.mp q)
theorem tn_quo (hF:UnmOk F) {t w nmn w1 w2 v rest:List Nat} {ps:List PV} {R:List (List PV)} (e:t = w ++ (nmn ++ (w1 ++ 61 :: (w2 ++ 34 :: (v ++ 34 :: rest))))) (hw:∀ c ∈ w,isSp c = true) (hn:∀ c ∈ nmn,isTk c = true) (h0:nmn ≠ []) (h1:∀ c ∈ w1,isSp c = true) (h2:∀ c ∈ w2,isSp c = true) (hv:qb v = true) :
  TN F a o t ps R rest (ps ++ [(nmn,some (escL v))]) R:=by
 intro m nm vl nj nr ht hp _
 have s1:=s_tok e hw hn h0 (nh_eq h1)
 have d1:t.drop (w.length + nmn.length) = w1 ++ 61 :: (w2 ++ 34 :: (v ++ 34 :: rest)):=dr (a:=w ++ nmn) (by rw [e,List.append_assoc]) (by rw [List.length_append])
 have s2:=s_quo (t:=t.drop (w.length + nmn.length)) d1 h1 h2 hv
 have lt:w.length + nmn.length <= t.length:=by rw [e,<- List.append_assoc,List.length_append,List.length_append]; exact Nat.le_add_right _ _
 have l1:(w1 ++ 61 :: (w2 ++ 34 :: (v ++ [34]))).length = w1.length + 1 + w2.length + 1 + v.length + 1:=by simp; (simp +arith)
 have d1':t.drop (w.length + nmn.length) = (w1 ++ 61 :: (w2 ++ 34 :: (v ++ [34]))) ++ rest:=by rw [d1]; simp
 obtain ⟨m',nm',vl',h⟩:=turn_quo (F:=F) (a:=a) (R:=oR R) (o:=o) (m:=m) (nm:=nm) (vl:=vl) (nj:=nj) (nr:=nr) (l:=ps.map fun p => .fz (pairD p)) ht (by rw [List.length_map]; exact hp) hF lt s1 (by rw [d1',List.length_append,l1]; exact Nat.le_add_right _ _) s2
 rw [dr d1' l1.symm,mid e rfl (Nat.add_sub_cancel_left ..),mid (a:=w1 ++ 61 :: (w2 ++ [34])) (b:=v) (c:=34 :: rest) (by rw [d1]; simp) (by simp; (simp +arith)) (Nat.add_sub_cancel_left ..),oP_snoc] at h
 exact ⟨m',nm',vl',nj,nr,h⟩
theorem tn_open (hF:UnmOk F) {t w nmn w1 w2 v rest:List Nat} {ps:List PV} {R:List (List PV)} (e:t = w ++ (nmn ++ (w1 ++ 61 :: (w2 ++ (v ++ rest))))) (hw:∀ c ∈ w,isSp c = true) (hn:∀ c ∈ nmn,isTk c = true) (h0:nmn ≠ []) (h1:∀ c ∈ w1,isSp c = true) (h2:∀ c ∈ w2,isSp c = true)
   (hs:NH isSp (v ++ rest)) (hq:srchD .quo (w1 ++ 61 :: (w2 ++ (v ++ rest))).toArray = none) (hv:∀ c ∈ v,isV c = true) (hr:NH isV rest):TN F a o t ps R rest (ps ++ [(nmn,some v)]) R:=by
 intro m nm vl nj nr ht hp _
 have s1:=s_tok e hw hn h0 (nh_eq h1)
 have d1:t.drop (w.length + nmn.length) = w1 ++ 61 :: (w2 ++ (v ++ rest)):=dr (a:=w ++ nmn) (by rw [e,List.append_assoc]) (by rw [List.length_append])
 have s2:srchD .quo (t.drop (w.length + nmn.length)).toArray = none:=by rw [d1]; exact hq
 have s3:=s_val (t:=t.drop (w.length + nmn.length)) d1 h1 h2 hs hv hr
 have lt:w.length + nmn.length <= t.length:=by rw [e,<- List.append_assoc,List.length_append,List.length_append]; exact Nat.le_add_right _ _
 have l1:(w1 ++ 61 :: (w2 ++ v)).length = w1.length + 1 + w2.length + v.length:=by simp; (simp +arith)
 have d1':t.drop (w.length + nmn.length) = (w1 ++ 61 :: (w2 ++ v)) ++ rest:=by rw [d1]; simp
 obtain ⟨m',nm',vl',h⟩:=turn_val (F:=F) (a:=a) (R:=oR R) (o:=o) (m:=m) (nm:=nm) (vl:=vl) (nj:=nj) (nr:=nr) (l:=ps.map fun p => .fz (pairD p)) ht (by rw [List.length_map]; exact hp) hF lt s1 (by rw [d1',List.length_append,l1]; exact Nat.le_add_right _ _) s2 s3
 rw [dr d1' l1.symm,mid e rfl (Nat.add_sub_cancel_left ..),mid (a:=w1 ++ 61 :: w2) (b:=v) (c:=rest) (by rw [d1]; simp) (by simp; (simp +arith)) (Nat.add_sub_cancel_left ..),rstrip_v hv,oP_snoc] at h
 exact ⟨m',nm',vl',nj,nr,h⟩
theorem tn_tok (hF:UnmOk F) {t w nmn w1 rest:List Nat} {ps:List PV} {R:List (List PV)} (e:t = w ++ (nmn ++ (w1 ++ rest))) (hw:∀ c ∈ w,isSp c = true) (hn:∀ c ∈ nmn,isTk c = true) (h0:nmn ≠ []) (h1:∀ c ∈ w1,isSp c = true) (hs:NH isSp rest) (hq:NH (· == 61) rest) (hr:NH isTk (w1 ++ rest)) :
  TN F a o t ps R (w1 ++ rest) (ps ++ [(nmn,none)]) R:=by
 intro m nm vl nj nr ht hp _
 have s1:=s_tok e hw hn h0 hr
 have d1:t.drop (w.length + nmn.length) = w1 ++ rest:=dr (a:=w ++ nmn) (by rw [e,List.append_assoc]) (by rw [List.length_append])
 have lt:w.length + nmn.length <= t.length:=by rw [e,<- List.append_assoc,List.length_append,List.length_append]; exact Nat.le_add_right _ _
 obtain ⟨m',nm',vl',h⟩:=turn_tok (F:=F) (a:=a) (R:=oR R) (o:=o) (m:=m) (nm:=nm) (vl:=vl) (nj:=nj) (nr:=nr) (l:=ps.map fun p => .fz (pairD p)) ht (by rw [List.length_map]; exact hp) hF lt s1 (s_quo_no_eq d1 h1 hs hq) (s_val_no d1 h1 hs hq)
 rw [d1,mid e rfl (Nat.add_sub_cancel_left ..),oP_snoc] at h
 exact ⟨m',nm',vl',nj,nr,h⟩
theorem tn_comma {t w rest:List Nat} {ps:List PV} {R:List (List PV)} (e:t = w ++ 44 :: rest) (hw:∀ c ∈ w,isSp c = true):TN F a o t ps R rest [] (put ps R):=by
 intro m nm vl nj nr ht _ hR
 obtain ⟨m',h⟩:=turn_comma (F:=F) (a:=a) (o:=o) (m:=m) (nm:=nm) (vl:=vl) (nj:=nj) (nr:=nr) (ps:=ps) (R:=R) (rest:=rest) ht (s_tok_no e hw (.cons sp44) (.cons rfl)) (by rw [e]; exact dw_app hw (.cons sp44)) hR
 exact ⟨m',nm,vl,nj,nr,h⟩
theorem tn_jk {t j rest:List Nat} {ps:List PV} {R:List (List PV)} (e:t = j ++ rest) (s1:srchD .tok t.toArray = none) (hc:[44].isPrefixOf (t.dropWhile isSp) = false) (hj:∀ c ∈ j,isJunk c = true) (h0:j ≠ []) (hr:NH isJunk rest):TN F a o t ps R rest ps R:=by
 intro m nm vl nj nr ht _ _
 obtain ⟨m',nj',nr',h⟩:=turn_junk (F:=F) (a:=a) (R:=oR R) (o:=o) (ps:=oP ps) (m:=m) (nm:=nm) (vl:=vl) (nj:=nj) (nr:=nr) ht s1 (by rw [m_starts,hc]) (by rw [e,tw_app hj hr]; exact len_pos h0)
 rw [show t.dropWhile isJunk = rest by rw [e]; exact dw_app hj hr] at h
 exact ⟨m',nm,vl,nj',nr',h⟩
theorem RW.done {ps:List PV} {R:List (List PV)}:RW F a o [] ps R (put ps R):=by
 intro n m nm vl nj nr hn ht hp hR
 cases n with
 | zero => exact absurd hn (Nat.not_lt_zero _)
 | succ n => exact ⟨ps,R,m,nm,vl,nj,nr,whl_done (d:=sx []) rfl rfl,rfl,hR⟩
theorem put_len (ps:List PV) (R:List (List PV)):(put ps R).length <= R.length + 1:=by unfold put; split <;> simp
theorem snoc_len (ps:List PV) (p:PV):(ps ++ [p]).length <= ps.length + 1:=by rw [List.length_append]; exact Nat.le_refl _
theorem reads_whl (hF:UnmOk F) {t:List Nat} {ps:List PV} {R L:List (List PV)} (rd:Reads' t ps R L):RW F a o t ps R L:=by
 induction rd with
 | done => exact .done
 | quo e hw hn h0 h1 h2 hv r ih => exact .step (tn_quo hF e hw hn h0 h1 h2 hv) (by have:=len_pos h0; rw [e]; simp; (simp +arith)) (snoc_len _ _) (Nat.le_succ _) ih
 | «open» e hw hn h0 h1 h2 hs hq hv hr r ih => exact .step (tn_open hF e hw hn h0 h1 h2 hs hq hv hr) (by have:=len_pos h0; rw [e]; simp; (simp +arith)) (snoc_len _ _) (Nat.le_succ _) ih
 | tok e hw hn h0 h1 hs hq hr r ih => exact .step (tn_tok hF e hw hn h0 h1 hs hq hr) (by have:=len_pos h0; rw [e]; simp; lia) (snoc_len _ _) (Nat.le_succ _) ih
 | comma e hw r ih => exact .step (tn_comma e hw) (by rw [e]; simp; (exact Nat.le_add_left _ _)) (Nat.zero_le _) (put_len _ _) ih
 | junk e hw hc hj hr r ih =>
  rename_i t w c j rest ps R L
  have hsp:isSp c = false:=by rcases hc with rfl | rfl <;> first | exact isSp61 | exact sp59
  have htk:isTk c = false:=by rcases hc with rfl | rfl <;> rfl
  have hjk:isJunk c = true:=by rcases hc with rfl | rfl <;> first | rfl | (unfold isJunk; simp)
  refine .step (tn_jk (j:=w ++ c :: j) (by rw [e]; simp) (s_tok_no e hw (.cons hsp) (.cons htk)) ?_ (fun d m => ?_) (fun q => by simp at q) hr) (by rw [e]; simp; (simp +arith)) (Nat.le_succ _) (Nat.le_succ _) ih
  ·rw [show t.dropWhile isSp = c :: (j ++ rest) by rw [e]; exact dw_app hw (.cons hsp)]
   rcases hc with rfl | rfl <;> rfl
  ·rcases List.mem_append.mp m with m | m
   ·exact sp_junk (hw d m)
   ·rcases List.mem_cons.mp m with rfl | m
    ·exact hjk
    ·exact hj d m
 | blank hw h0 =>
  rename_i t ps R
  have e:=(List.append_nil t).symm
  refine .step (t2:=[]) (tn_jk e (s_tok_no e hw .nil .nil) ?_ (fun d m => sp_junk (hw d m)) h0 .nil) (len_pos h0) (Nat.le_succ _) (Nat.le_succ _) .done
  have hd:=dw_app (u:=[]) hw .nil
  rw [List.append_nil] at hd
  rw [hd]; rfl
theorem evS_split (hF:UnmOk F) {t:List Nat} {L:List (List PV)} (rd:Reads' t [] [] L) (ht:t.length <= 10000) :
  ∃ σ',evS F b3_split_header_words [.rv (.d (.list [sx t])),.rv .un,.rv .un,.rv .un,.rv .un,.rv .un,.rv .un,.rv .un,.rv .un,.rv .un] = some (some (.list (L.map listD)),σ'):=by
 have hbig:big = 1000000:=rfl
 have hrw:RW F (.rv (.d (.list [sx t]))) (.rv (.d (sx t))) t [] [] L:=reads_whl hF rd
 obtain ⟨ps',R',m',nm',vl',nj',nr',h,rfl,hR⟩:=hrw wfuel (.rv .un) (.rv .un) (.rv .un) (.rv .un) (.rv .un) (by unfold wfuel; lia) ht (by simp; lia) (by simp; lia)
 obtain ⟨p',hp⟩:=e_put (F:=F) (a:=.rv (.d (.list [sx t]))) (o:=.rv (.d (sx t))) (m:=m') (nm:=nm') (vl:=vl') (nj:=nj') (nr:=nr') (r:=.nil) (x:=.rv (.d (sx []))) (ps:=ps') hR
 show ∃ σ',(forD (fun x σ => (bindT 1 x).bind fun tg => evS F (.asg 3 (.var 2) (.own 4 (.lst .nil) (.whl (.var 2) bTurn (bPut .nil)))) (setAll σ [2] tg)) [sx t] [.rv (.d (.list [sx t])),oR [],.rv .un,.rv .un,.rv .un,.rv .un,.rv .un,.rv .un,.rv .un,.rv .un]).bind (fun q => match q.1 with
  | none => evS F (.frz 1 (.ret (.var 1))) q.2
  | some d => some (some d,q.2)) = _
 have e1:forD (fun x σ => (bindT 1 x).bind fun tg => evS F (.asg 3 (.var 2) (.own 4 (.lst .nil) (.whl (.var 2) bTurn (bPut .nil)))) (setAll σ [2] tg)) [sx t] [.rv (.d (.list [sx t])),oR [],.rv .un,.rv .un,.rv .un,.rv .un,.rv .un,.rv .un,.rv .un,.rv .un] =
   some (none,[.rv (.d (.list [sx t])),oR (put ps' R'),.rv (.d (sx [])),.rv (.d (sx t)),p',m',nm',vl',nj',nr']):=by
  show ((whlD (cT F) (evS F bTurn) wfuel [.rv (.d (.list [sx t])),oR [],.rv (.d (sx t)),.rv (.d (sx t)),oP [],.rv .un,.rv .un,.rv .un,.rv .un,.rv .un]).bind (fun q => match q.1 with
   | none => evS F (bPut .nil) q.2
   | some d => some (some d,q.2))).bind _ = _
  rw [h]
  show (evS F (bPut .nil) [.rv (.d (.list [sx t])),oR R',.rv (.d (sx [])),.rv (.d (sx t)),oP ps',m',nm',vl',nj',nr']).bind _ = _
  rw [hp]
  rfl
 rw [e1]
 show ∃ σ',evS F (.ret (.var 1)) [.rv (.d (.list [sx t])),frzSl (oR (put ps' R')),.rv (.d (sx [])),.rv (.d (sx t)),p',m',nm',vl',nj',nr'] = _
 rw [frz_oR]
 exact ⟨_,rfl⟩
end
noncomputable def sq (f:Bool) (l:List Nat):List Nat:=dotL f (eolL l)
theorem eolL_keep {c:Nat} (r:List Nat) (h:c ≠ 10 /\ c ≠ 13):eolL (c :: r) = c :: eolL r:=by
 rw [eolL]
 ·rw [if_neg (by lia)]
 ·rintro _ rfl; lia
theorem eolL_cr (r:List Nat) (h:NH (· == 10) r):eolL (13 :: r) = 13 :: 10 :: eolL r:=by
 rw [eolL]
 ·rw [if_pos (by (decide))]
 ·rintro r' _ rfl; have:=h 10 r' rfl; cases this
theorem eolL_lf (r:List Nat):eolL (10 :: r) = 13 :: 10 :: eolL r:=by
 rw [eolL]
 ·rw [if_pos (by (decide))]
 ·rintro _ h; cases h
theorem eolL_crlf (r:List Nat):eolL (13 :: 10 :: r) = 13 :: 10 :: eolL r:=by rw [eolL]
theorem eol_ind {P:List Nat -> Prop} (h0:P []) (h1:∀ r,P r -> P (13 :: 10 :: r)) (h2:∀ r,NH (· == 10) r -> P r -> P (13 :: r)) (h3:∀ r,P r -> P (10 :: r)) (h4:∀ c r,c ≠ 10 /\ c ≠ 13 -> P r -> P (c :: r)):∀ l,P l:=by
 have key:∀ (n:Nat) (l:List Nat),l.length <= n -> P l:=by
  intro n
  induction n with
  | zero => intro l h; cases l with | nil => exact h0 | cons c r => simp at h
  | succ n ih =>
   intro l h
   match l,h with
   | [],_ => exact h0
   | c :: r,h =>
    simp at h
    by_cases h10:c = 10
    ·subst h10; exact h3 r (ih r h)
    ·by_cases h13:c = 13
     ·subst h13
      match r,h with
      | [],h => exact h2 [] .nil (ih [] h)
      | d :: r,h =>
       by_cases hd:d = 10
       ·subst hd; simp at h; exact h1 r (ih r (by (exact Nat.le_of_lt (by assumption))))
       ·exact h2 (d :: r) (.cons (by simpa using hd)) (ih _ h)
     ·exact h4 c r ⟨h10,h13⟩ (ih r h)
 exact fun l => key l.length l (Nat.le_refl _)
theorem eolL_sep {c:Nat} (b:List Nat) (h:c ≠ 10 /\ c ≠ 13):∀ a,eolL (a ++ c :: b) = eolL a ++ c :: eolL b:=by
 refine eol_ind ?_ ?_ ?_ ?_ ?_
 ·rw [List.nil_append,eolL_keep _ h]; rfl
 ·intro r ih
  rw [List.cons_append,List.cons_append,eolL_crlf,eolL_crlf,ih]; rfl
 ·intro r hr ih
  rw [List.cons_append,eolL_cr _ hr,eolL_cr,ih]; rfl
  cases r with
  | nil => exact .cons (by simpa using h.1)
  | cons d r => exact .cons (hr d r rfl)
 ·intro r ih
  rw [List.cons_append,eolL_lf,eolL_lf,ih]; rfl
 ·intro d r hd ih
  rw [List.cons_append,eolL_keep _ hd,eolL_keep _ hd,ih]; rfl
theorem dotL_keep {c:Nat} {f:Bool} (r:List Nat) (h:c ≠ 46 \/ f = false):dotL f (c :: r) = c :: dotL (c == 10) r:=by
 rw [dotL]
 exact if_neg (by rintro ⟨rfl,rfl⟩; rcases h with h | h <;> simp at h)
theorem dotL_dot (r:List Nat):dotL true (46 :: r) = 46 :: 46 :: dotL false r:=by
 rw [dotL]; exact if_pos ⟨rfl,rfl⟩
theorem dotL_sep {c:Nat} (b:List Nat) (h:c ≠ 10 /\ c ≠ 46):∀ (a:List Nat) (f:Bool),dotL f (a ++ c :: b) = dotL f a ++ c :: dotL false b
 | [],f => by
  rw [List.nil_append,dotL_keep b (.inl h.2),beq_false_of_ne h.1]; rfl
 | d :: a,f => by
  rw [List.cons_append]
  by_cases hd:d = 46 /\ f = true
  ·obtain ⟨rfl,rfl⟩:=hd
   rw [dotL_dot,dotL_dot,dotL_sep b h]; rfl
  ·have:d ≠ 46 \/ f = false:=by
    by_cases h1:d = 46
    ·right; cases f with | false => rfl | true => exact (hd ⟨h1,rfl⟩).elim
    ·exact .inl h1
   rw [dotL_keep _ this,dotL_keep _ this,dotL_sep b h]; rfl
theorem sq_sep {f:Bool} {c:Nat} (a b:List Nat) (h:c ≠ 10 /\ c ≠ 13 /\ c ≠ 46):sq f (a ++ c :: b) = sq f a ++ c :: sq false b:=by
 unfold sq
 rw [eolL_sep b ⟨h.1,h.2.1⟩,dotL_sep _ ⟨h.1,h.2.2⟩]
theorem sq_nil (f:Bool):sq f [] = []:=by cases f <;> rfl
theorem sq_cons {f:Bool} {c:Nat} (b:List Nat) (h:c ≠ 10 /\ c ≠ 13 /\ c ≠ 46):sq f (c :: b) = c :: sq false b:=by
 have:=sq_sep (f:=f) [] b h
 rw [sq_nil] at this; exact this
theorem jescL_keep {c:Nat} (r:List Nat) (h:c ≠ 34 /\ c ≠ 92):jescL (c :: r) = c :: jescL r:=by
 rw [jescL]; exact if_neg (by lia)
theorem jescL_esc {c:Nat} (r:List Nat) (h:c = 34 \/ c = 92):jescL (c :: r) = 92 :: c :: jescL r:=by
 rw [jescL]; exact if_pos h
theorem jescL_nh {r:List Nat} (h:NH (· == 10) r):NH (· == 10) (jescL r):=by
 cases r with
 | nil => exact .nil
 | cons c r =>
  by_cases hc:c = 34 \/ c = 92
  ·rw [jescL_esc _ hc]; exact .cons rfl
  ·rw [jescL_keep _ (by lia)]; exact .cons (h c r rfl)
theorem eol_jesc:∀ l,eolL (jescL l) = jescL (eolL l):=by
 refine eol_ind rfl ?_ ?_ ?_ ?_
 ·intro r ih
  rw [jescL_keep _ (by decide),jescL_keep _ (by decide),eolL_crlf,eolL_crlf,ih,jescL_keep _ (by decide),jescL_keep _ (by decide)]
 ·intro r hr ih
  rw [jescL_keep _ (by decide),eolL_cr _ (jescL_nh hr),eolL_cr _ hr,ih,jescL_keep _ (by decide),jescL_keep _ (by decide)]
 ·intro r ih
  rw [jescL_keep _ (by decide),eolL_lf,eolL_lf,ih,jescL_keep _ (by decide),jescL_keep _ (by decide)]
 ·intro c r hc ih
  by_cases h:c = 34 \/ c = 92
  ·rw [jescL_esc _ h,eolL_keep _ (by decide),eolL_keep _ hc,eolL_keep _ hc,ih,jescL_esc _ h]
  ·rw [jescL_keep _ (by lia),eolL_keep _ hc,eolL_keep _ hc,ih,jescL_keep _ (by lia)]
theorem dot_jesc:∀ (l:List Nat) (f:Bool),dotL f (jescL l) = jescL (dotL f l)
 | [],f => by cases f <;> rfl
 | c :: l,f => by
  by_cases h:c = 34 \/ c = 92
  ·have h46:c ≠ 46:=by lia
   have h10:(c == 10) = false:=beq_false_of_ne (by lia)
   rw [jescL_esc _ h,dotL_keep _ (.inl (by decide)),dotL_keep _ (.inl h46),dotL_keep _ (.inl h46),jescL_esc _ h,dot_jesc l,h10]
  ·rw [jescL_keep _ (by lia)]
   by_cases hd:c = 46 /\ f = true
   ·obtain ⟨rfl,rfl⟩:=hd
    rw [dotL_dot,dotL_dot,dot_jesc l,jescL_keep _ (by decide),jescL_keep _ (by decide)]
   ·have:c ≠ 46 \/ f = false:=by
     by_cases h1:c = 46
     ·right; cases f with | false => rfl | true => exact (hd ⟨h1,rfl⟩).elim
     ·exact .inl h1
    rw [dotL_keep _ this,dotL_keep _ this,dot_jesc l,jescL_keep _ (by lia)]
theorem sq_jesc (f:Bool) (l:List Nat):sq f (jescL l) = jescL (sq f l):=by
 unfold sq; rw [eol_jesc,dot_jesc]
noncomputable def bare (v:List Nat):Bool:=!v.isEmpty && v.all isJt
theorem eol_all:∀ l,(eolL l).all isJt = l.all isJt:=by
 have a:isJt 13 = false:=rfl
 have b:isJt 10 = false:=rfl
 refine eol_ind rfl ?_ ?_ ?_ ?_
 ·intro r ih; rw [eolL_crlf,List.all_cons,List.all_cons,a]; rfl
 ·intro r hr ih; rw [eolL_cr _ hr,List.all_cons,List.all_cons,a]; rfl
 ·intro r ih; rw [eolL_lf,List.all_cons,List.all_cons,a,b]; rfl
 ·intro c r hc ih; rw [eolL_keep _ hc,List.all_cons,List.all_cons,ih]
theorem dot_all:∀ (l:List Nat) (f:Bool),(dotL f l).all isJt = l.all isJt
 | [],f => by cases f <;> rfl
 | c :: l,f => by
  by_cases hd:c = 46 /\ f = true
  ·obtain ⟨rfl,rfl⟩:=hd
   have a:isJt 46 = true:=rfl
   rw [dotL_dot,List.all_cons,List.all_cons,List.all_cons,dot_all l,a]; rfl
  ·rw [dotL,if_neg hd,List.all_cons,List.all_cons,dot_all l]
theorem eol_ne {l:List Nat} (h:l ≠ []):eolL l ≠ []:=by
 revert h
 refine eol_ind (P:=fun l => l ≠ [] -> eolL l ≠ []) (fun h => (h rfl).elim) ?_ ?_ ?_ ?_ l
 ·intro r _ _; rw [eolL_crlf]; nofun
 ·intro r hr _ _; rw [eolL_cr _ hr]; nofun
 ·intro r _ _; rw [eolL_lf]; nofun
 ·intro c r hc _ _; rw [eolL_keep _ hc]; nofun
theorem dot_ne {l:List Nat} {f:Bool} (h:l ≠ []):dotL f l ≠ []:=by
 cases l with
 | nil => exact (h rfl).elim
 | cons c l => rw [dotL]; split <;> nofun
theorem bare_sq (f:Bool) (v:List Nat):bare (sq f v) = bare v:=by
 unfold bare sq
 rw [dot_all,eol_all]
 cases v with
 | nil => cases f <;> rfl
 | cons c v =>
  have h:=dot_ne (f:=f) (eol_ne (l:=c :: v) (by nofun))
  have:(dotL f (eolL (c :: v))).isEmpty = false:=by
   cases hh:dotL f (eolL (c :: v)) with
   | nil => exact (h hh).elim
   | cons _ _ => rfl
  rw [this]; rfl
theorem joinV_b {v:List Nat} (h:bare v = true):joinV v = v:=by unfold joinV; exact if_pos h
theorem joinV_q {v:List Nat} (h:bare v = false):joinV v = 34 :: (jescL v ++ [34]):=by
 unfold joinV
 exact if_neg (show ¬ (bare v = true) by rw [h]; decide)
theorem sq_joinV (v:List Nat):sq false (joinV v) = joinV (sq false v):=by
 cases h:bare v with
 | true => rw [joinV_b h,joinV_b (by rw [bare_sq]; exact h)]
 | false =>
  rw [joinV_q h,joinV_q (by rw [bare_sq]; exact h),sq_cons _ (by decide),sq_sep _ _ (by decide),sq_nil,sq_jesc]
theorem qb_jesc:∀ l,qb (jescL l) = true
 | [] => rfl
 | c :: l => by
  by_cases h:c = 34 \/ c = 92
  ·rw [jescL_esc _ h,qb_esc _ _ (by lia),qb_jesc l]
  ·rw [jescL_keep _ (by lia),qb_plain _ (by unfold isQ; simp; lia),qb_jesc l]
theorem escL_keep {c:Nat} (r:List Nat) (h:c ≠ 92):escL (c :: r) = c :: escL r:=by
 cases r with
 | nil => rfl
 | cons d r => rw [escL]; exact if_neg (fun x => h x.1)
theorem escL_esc (c:Nat) (r:List Nat) (h:c ≠ 10):escL (92 :: c :: r) = c :: escL r:=by
 rw [escL]; exact if_pos ⟨rfl,h⟩
theorem esc_jesc:∀ l,escL (jescL l) = l
 | [] => rfl
 | c :: l => by
  by_cases h:c = 34 \/ c = 92
  ·rw [jescL_esc _ h,escL_esc _ _ (by lia),esc_jesc l]
  ·rw [jescL_keep _ (by lia),escL_keep _ (by lia),esc_jesc l]
theorem jt_lt {c:Nat} (h:isJt c = true):c < 127:=by
 refine Nat.lt_of_not_le fun q => ?_
 rw [jt_big q] at h; cases h
theorem jt_facts:∀ c < 127,isJt c = true -> isTk c = true /\ isV c = true /\ isSp c = false /\ c ≠ 34 /\ c ≠ 92:=by decide +kernel
theorem bare_ne {v:List Nat} (h:bare v = true):v ≠ []:=by rintro rfl; cases h
theorem bare_all {v:List Nat} (h:bare v = true):∀ c ∈ v,isJt c = true:=by
 unfold bare at h
 rw [Bool.and_eq_true,List.all_eq_true] at h
 exact h.2
theorem reads_pairW {t w k v rest:List Nat} {ps:List PV} {R L:List (List PV)} (e:t = w ++ (k ++ 61 :: (joinV v ++ rest))) (hw:∀ c ∈ w,isSp c = true) (hk:∀ c ∈ k,isTk c = true) (h0:k ≠ []) (hr:NH isV rest) (r:Reads' rest (ps ++ [(k,some v)]) R L):Reads' t ps R L:=by
 cases h:bare v with
 | false =>
  rw [joinV_q h] at e
  exact Reads'.quo (t:=t) (w:=w) (nm:=k) (w1:=[]) (w2:=[]) (v:=jescL v) (rest:=rest) (ps:=ps) (R:=R) (L:=L) (by rw [e]; simp) hw hk h0 no_mem no_mem (qb_jesc v) (by rw [esc_jesc]; exact r)
 | true =>
  rw [joinV_b h] at e
  have ha:=fun c m => jt_facts c (jt_lt (bare_all h c m)) (bare_all h c m)
  have hne:=bare_ne h
  refine Reads'.val (t:=t) (w:=w) (nm:=k) (w1:=[]) (w2:=[]) (v:=v) (rest:=rest) (by rw [e]; rfl) hw hk h0 no_mem no_mem ?_ ?_ (fun c m => (ha c m).2.1) hr r
  ·cases v with
   | nil => exact (hne rfl).elim
   | cons c v => exact .cons (ha c List.mem_cons_self).2.2.1
  ·cases v with
   | nil => exact (hne rfl).elim
   | cons c v => exact .cons (beq_false_of_ne (ha c List.mem_cons_self).2.2.2.1)
theorem reads_pair {t k v rest:List Nat} {ps:List PV} {R L:List (List PV)} (e:t = k ++ 61 :: (joinV v ++ rest)) (hk:∀ c ∈ k,isTk c = true) (h0:k ≠ []) (hr:NH isV rest) (r:Reads' rest (ps ++ [(k,some v)]) R L):Reads' t ps R L:=
 reads_pairW (w:=[]) e no_mem hk h0 hr r
noncomputable def sentC (n:Nat) (p:List Nat) (c:Nat):List Nat:=
 if c = 13 \/ c = 10 then (if p ++ [c] = [13,10] then [] else [13,10]) else if c = 46 /\ (p = [13] \/ p = [10]) then List.replicate (n + 1) 46 else [c]
noncomputable def sentF (n:Nat):List Nat -> List Nat -> List Nat
 | _,[] => []
 | p,c :: r => sentC n p c ++ sentF n [c] r
theorem sentC_lf {n:Nat} {p:List Nat} (h:p ≠ [13]):sentC n p 10 = [13,10]:=by
 unfold sentC
 rw [if_pos (.inr rfl),if_neg]
 intro e
 cases p with
 | nil => cases e
 | cons a p => cases p with
  | nil => cases e; exact h rfl
  | cons b p => cases p <;> cases e
theorem sentC_lf' (n:Nat):sentC n [13] 10 = []:=rfl
theorem sentC_cr (n:Nat) (p:List Nat):sentC n p 13 = [13,10]:=by
 unfold sentC
 rw [if_pos (.inl rfl),if_neg]
 intro e
 cases p with
 | nil => cases e
 | cons a p => cases p with
  | nil => cases e
  | cons b p => cases p <;> cases e
theorem sentC_dot {n:Nat} {p:List Nat} (h:p = [13] \/ p = [10]):sentC n p 46 = List.replicate (n + 1) 46:=by
 unfold sentC
 rw [if_neg (by decide),if_pos ⟨rfl,h⟩]
theorem sentC_keep {n c:Nat} {p:List Nat} (h:c ≠ 10 /\ c ≠ 13) (h2:c = 46 -> ¬ (p = [13] \/ p = [10])):sentC n p c = [c]:=by
 unfold sentC
 rw [if_neg (by lia),if_neg (fun x => h2 x.1 x.2)]
theorem sent_zero:∀ (l p:List Nat),(p = [13] -> NH (· == 10) l) -> sentF 0 p l = eolL l:=by
 refine eol_ind (fun p _ => rfl) ?_ ?_ ?_ ?_
 ·intro r ih p hp
  show sentC 0 p 13 ++ (sentC 0 [13] 10 ++ sentF 0 [10] r) = _
  rw [sentC_cr,sentC_lf',ih [10] (fun e => by cases e),eolL_crlf]; rfl
 ·intro r hr ih p hp
  show sentC 0 p 13 ++ sentF 0 [13] r = _
  rw [sentC_cr,ih [13] (fun _ => hr),eolL_cr _ hr]; rfl
 ·intro r ih p hp
  show sentC 0 p 10 ++ sentF 0 [10] r = _
  rw [sentC_lf (fun e => by have:=hp e 10 r rfl; simp at this),ih [10] (fun e => by cases e),eolL_lf]; rfl
 ·intro c r hc ih p hp
  show sentC 0 p c ++ sentF 0 [c] r = _
  rw [ih [c] (fun e => by cases e; exact (hc.2 rfl).elim),eolL_keep _ hc]
  by_cases h:c = 46 /\ (p = [13] \/ p = [10])
  ·rw [h.1,sentC_dot h.2]; rfl
  ·rw [sentC_keep hc fun e x => h ⟨e,x⟩]; rfl
theorem eol_rep (X:List Nat):∀ n,eolL (List.replicate n 46 ++ X) = List.replicate n 46 ++ eolL X
 | 0 => rfl
 | n + 1 => by rw [List.replicate_succ,List.cons_append,eolL_keep _ (by decide),eol_rep X n]; rfl
theorem dot_rep (X:List Nat):∀ n,dotL false (List.replicate n 46 ++ X) = List.replicate n 46 ++ dotL false X
 | 0 => rfl
 | n + 1 => by rw [List.replicate_succ,List.cons_append,dotL_keep _ (.inr rfl),show ((46:Nat) == 10) = false from rfl,dot_rep X n]; rfl
theorem sign_cases {Q:Nat -> List Nat -> Prop} (p:List Nat) (h1:Q 13 p) (h2:p = [13] -> Q 10 [13]) (h3:p ≠ [13] -> Q 10 p) (h4:(p = [13] \/ p = [10]) -> Q 46 p) (h5:∀ c,c ≠ 10 /\ c ≠ 13 -> (c = 46 -> ¬ (p = [13] \/ p = [10])) -> Q c p) (c:Nat):Q c p:=by
 by_cases a:c = 13
 ·subst a; exact h1
 ·by_cases b:c = 10
  ·subst b
   by_cases e:p = [13]
   ·subst e; exact h2 rfl
   ·exact h3 e
  ·by_cases d:c = 46 /\ (p = [13] \/ p = [10])
   ·rw [d.1]; exact h4 d.2
   ·exact h5 c ⟨b,a⟩ fun e x => d ⟨e,x⟩
theorem sent_eol (n:Nat):∀ l p,eolL (sentF n p l) = sentF n p l
 | [],_ => rfl
 | c :: r,p => by
  show eolL (sentC n p c ++ sentF n [c] r) = sentC n p c ++ sentF n [c] r
  have ih:=sent_eol n r [c]
  generalize sentF n [c] r = X at ih
  revert ih
  refine sign_cases (Q:=fun c p => eolL X = X -> eolL (sentC n p c ++ X) = sentC n p c ++ X) p ?_ ?_ ?_ ?_ ?_ c
  ·intro ih; rw [sentC_cr]; show eolL (13 :: 10 :: X) = _; rw [eolL_crlf,ih]; rfl
  ·intro _ ih; rw [sentC_lf']; exact ih
  ·intro h ih; rw [sentC_lf h]; show eolL (13 :: 10 :: X) = _; rw [eolL_crlf,ih]; rfl
  ·intro h ih; rw [sentC_dot h,eol_rep,ih]
  ·intro c hc h ih; rw [sentC_keep hc h]; show eolL (c :: X) = _; rw [eolL_keep _ hc,ih]; rfl
theorem sent_dot (n:Nat):∀ l p,dotL (p == [13] || p == [10]) (sentF n p l) = sentF (n + 1) p l
 | [],p => by cases (p == [13] || p == [10]) <;> rfl
 | c :: r,p => by
  show dotL _ (sentC n p c ++ sentF n [c] r) = sentC (n + 1) p c ++ sentF (n + 1) [c] r
  have ih:=sent_dot n r [c]
  generalize sentF n [c] r = X at ih
  generalize sentF (n + 1) [c] r = Y at ih
  revert ih
  refine sign_cases (Q:=fun c p => dotL ([c] == [13] || [c] == [10]) X = Y -> dotL (p == [13] || p == [10]) (sentC n p c ++ X) = sentC (n + 1) p c ++ Y) p ?_ ?_ ?_ ?_ ?_ c
  ·intro ih
   rw [sentC_cr,sentC_cr,<- ih]
   show dotL _ (13 :: 10 :: X) = _
   rw [dotL_keep _ (.inl (by decide)),dotL_keep _ (.inr (by decide))]; rfl
  ·intro _ ih; rw [sentC_lf',sentC_lf',<- ih]; rfl
  ·intro h ih
   rw [sentC_lf h,sentC_lf h,<- ih]
   show dotL _ (13 :: 10 :: X) = _
   rw [dotL_keep _ (.inl (by decide)),dotL_keep _ (.inr (by decide))]; rfl
  ·intro h ih
   rw [sentC_dot h,sentC_dot h,<- ih,show (p == [13] || p == [10]) = true by rcases h with rfl | rfl <;> rfl,List.replicate_succ,List.cons_append,dotL_dot,dot_rep]; rfl
  ·intro c hc h ih
   rw [sentC_keep hc h,sentC_keep hc h,<- ih]
   show dotL _ (c :: X) = _
   have e1:([c] == [13] || [c] == [10]) = false:=by simp; lia
   have e2:(c == 10) = false:=beq_false_of_ne hc.1
   rw [dotL_keep _,e1,e2]; rfl
   by_cases hd:c = 46
   ·right
    have:=h hd
    cases hp:(p == [13] || p == [10]) with
    | false => rfl
    | true => exact (this (by simpa using hp)).elim
   ·exact .inl hd
noncomputable def qs:Nat -> List Nat -> List Nat
 | 0,x => x
 | j + 1,x => sq false (qs j x)
theorem qs_sent (x:List Nat):∀ j,qs (j + 1) x = sentF (j + 1) [] x
 | 0 => by
  show dotL false (eolL x) = _
  rw [<- sent_zero x [] (fun e => by cases e)]
  exact sent_dot 0 x []
 | j + 1 => by
  show dotL false (eolL (qs (j + 1) x)) = _
  rw [qs_sent x j,sent_eol]
  exact sent_dot (j + 1) x []
theorem sentC_len (n:Nat) (p:List Nat) (c:Nat):(sentC n p c).length <= n + 2:=by
 unfold sentC
 split
 ·split <;> simp
 ·split <;> simp
theorem sentF_len (n:Nat):∀ l p,(sentF n p l).length <= (n + 2) * l.length
 | [],_ => by simp [sentF]
 | c :: r,p => by
  have:=sentC_len n p c
  have ih:=sentF_len n r [c]
  show (sentC n p c ++ sentF n [c] r).length <= (n + 2) * (r.length + 1)
  rw [List.length_append,Nat.mul_succ]
  lia
section
variable {F:Str -> List RV -> Option PyData} {i:Nat} {e c:E} {r a b:Bk} {σ σ':List Sl} {d:PyData} {t:List Nat} {p:Pat}
theorem e_aug {op:Operator} {x y z:PyData} (h:evE F e (rvs σ) = some y) (hs:getSl σ i = .rv (.d x)) (ho:augOk op x = true) (hz:binD op x y = some z):evS F (.aug i op e r) σ = evS F r (σ.set i (.rv (.d z))):=by
 show (evE F e (rvs σ)).bind _ = _
 rw [h]
 show (augD op (getSl σ i) y).bind _ = _
 rw [hs]
 show (if augOk op x = true then binD op x y else none).bind _ = _
 rw [if_pos ho,hz]; rfl
theorem e_ret (h:evE F e (rvs σ) = some d):evS F (.ret e) σ = some (some d,σ):=by
 show (evE F e (rvs σ)).map _ = _
 rw [h]; rfl
theorem e_for {is:List Nat} {it:E} {xs:List PyData} {d0:PyData} (h:evE F it (rvs σ) = some d0) (hi:itemsD d0 = some xs) (hf:forD (fun x σ => (bindT is.length x).bind fun tg => evS F b (setAll σ is tg)) xs σ = some (none,σ')) :
  evS F (.for_ is it b r) σ = evS F r σ':=by
 show ((evE F it (rvs σ)).bind itemsD).bind _ = _
 rw [h]
 show (itemsD d0).bind _ = _
 rw [hi]
 show (forD (fun x σ => (bindT is.length x).bind fun tg => evS F b (setAll σ is tg)) xs σ).bind _ = _
 rw [hf]; rfl
section
variable {F:Str -> List RV -> Option PyData} {a b c:E} {ρ:List RV} {x y z:PyData} {t:Bool}
theorem x_bin {op:Operator} (h1:evE F a ρ = some x) (h2:evE F b ρ = some y) (h:binD op x y = some z):evE F (.bin op a b) ρ = some z:=by
 show ((evE F a ρ).bind fun x => (evE F b ρ).bind fun y => binD op x y) = _
 rw [h1,Option.bind_some,h2,Option.bind_some,h]
theorem x_cmp {op:CmpOp} (h1:evE F a ρ = some x) (h2:evE F b ρ = some y) (h:cmpD op x y = some t):evE F (.cmp op a b) ρ = some (.bool t):=by
 show ((evE F a ρ).bind fun x => (evE F b ρ).bind fun y => (cmpD op x y).map PyData.bool) = _
 rw [h1,Option.bind_some,h2,Option.bind_some,h]; rfl
theorem x_band_f (h:evE F a ρ = some x) (hx:truth x = false):evE F (.band (.cons a b)) ρ = some x:=by
 show ((evE F a ρ).bind fun x => if truth x = true then evB F true b ρ x else some x) = _
 rw [h,Option.bind_some,if_neg (by rw [hx]; decide)]
theorem x_band_t (h:evE F a ρ = some x) (hx:truth x = true):evE F (.band (.cons a (.cons b c))) ρ = evE F (.band (.cons b c)) ρ:=by
 show ((evE F a ρ).bind fun x => if truth x = true then evB F true (.cons b c) ρ x else some x) = evB F true (.cons b c) ρ .none
 rw [h,Option.bind_some,if_pos hx]; rfl
theorem x_bor_t (h:evE F a ρ = some x) (hx:truth x = true):evE F (.bor (.cons a b)) ρ = some x:=by
 show ((evE F a ρ).bind fun x => if truth x = false then evB F false b ρ x else some x) = _
 rw [h,Option.bind_some,if_neg (by rw [hx]; decide)]
theorem x_bor_f (h:evE F a ρ = some x) (hx:truth x = false):evE F (.bor (.cons a (.cons b c))) ρ = evE F (.bor (.cons b c)) ρ:=by
 show ((evE F a ρ).bind fun x => if truth x = false then evB F false (.cons b c) ρ x else some x) = evB F false (.cons b c) ρ .none
 rw [h,Option.bind_some,if_pos hx]; rfl
theorem x_bor_1 (h:evE F a ρ = some x):evE F (.bor (.cons a .nil)) ρ = some x:=by
 show ((evE F a ρ).bind fun x => if truth x = false then evB F false .nil ρ x else some x) = _
 rw [h,Option.bind_some]; split <;> rfl
theorem x_band_1 (h:evE F a ρ = some x):evE F (.band (.cons a .nil)) ρ = some x:=by
 show ((evE F a ρ).bind fun x => if truth x = true then evB F true .nil ρ x else some x) = _
 rw [h,Option.bind_some]; split <;> rfl
end
theorem add_str {x y:List Nat} (h:x.length + y.length <= big):binD .Add (sx x) (sx y) = some (sx (x ++ y)):=if_pos h
theorem eq_str (x y:List Nat):cmpD .Eq (sx x) (sx y) = some (x == y):=rfl
theorem ne_str (x y:List Nat):cmpD .NotEq (sx x) (sx y) = some (!(x == y)):=rfl
end
theorem mult_rep (c:Nat) (b a:Nat) (hb:b <= 100) (ha:a <= 100):binD .Mult (sx [c]) (.int ((b:Int) - (a:Int))) = some (sx (List.replicate (b - a) c)):=by
 show (if 1 <= 1000 /\ ((b:Int) - (a:Int)) <= 1000 /\ -1000 <= ((b:Int) - (a:Int)) then some (sx (List.replicate ((b:Int) - (a:Int)).toNat [c]).flatten) else none) = _
 rw [if_pos (by lia),Int.toNat_sub b a,List.flatten_replicate_singleton]
theorem mult_rep0 (c:Nat) (b:Nat) (hb:b <= 100):binD .Mult (sx [c]) (.int (b:Int)) = some (sx (List.replicate b c)):=by
 have:=mult_rep c b 0 hb (by (exact Nat.zero_le _))
 simpa using this
theorem x_l1 {F:Str -> List RV -> Option PyData} {a:E} {ρ:List RV} {x:PyData} (h:evE F a ρ = some x):evL F (.cons a .nil) ρ = some [x]:=by
 show ((evE F a ρ).bind fun x => (evL F .nil ρ).map (x :: ·)) = _
 rw [h]; rfl
theorem x_l2 {F:Str -> List RV -> Option PyData} {a b:E} {ρ:List RV} {x y:PyData} (h:evE F a ρ = some x) (h2:evE F b ρ = some y):evL F (.cons a (.cons b .nil)) ρ = some [x,y]:=by
 show ((evE F a ρ).bind fun x => (evL F (.cons b .nil) ρ).map (x :: ·)) = _
 rw [h,Option.bind_some,x_l1 h2]; rfl
theorem x_tup {F:Str -> List RV -> Option PyData} {es:E} {ρ:List RV} {xs:List PyData} (h:evL F es ρ = some xs):evE F (.tup es) ρ = some (.tuple xs):=by
 show (evL F es ρ).map _ = _
 rw [h]; rfl
theorem x_lst {F:Str -> List RV -> Option PyData} {es:E} {ρ:List RV} {xs:List PyData} (h:evL F es ρ = some xs):evE F (.lst es) ρ = some (.list xs):=by
 show (evL F es ρ).map _ = _
 rw [h]; rfl
theorem ne_D (x y:PyData):cmpD .NotEq x y = (eqD x y).map (!·):=rfl
theorem eqv_all {α:Type} {f:α -> PyData} (h:∀ a,PyData.eqv (f a) (f a) = true):∀ l:List α,PyData.eqvAll (l.map f) (l.map f) = true
 | [] => rfl
 | a :: l => by rw [List.map_cons,PyData.eqvAll,h a,eqv_all h l]; rfl
theorem eqv_val (v:Option (List Nat)):PyData.eqv (valD v) (valD v) = true:=by cases v <;> simp [valD,PyData.eqv]
theorem eqv_pair (p:PV):PyData.eqv (pairD p) (pairD p) = true:=by
 unfold pairD
 rw [PyData.eqv,PyData.eqvAll,PyData.eqvAll,eqv_val]
 simp [PyData.eqv,PyData.eqvAll]
theorem eqv_list (ps:List PV):PyData.eqv (listD ps) (listD ps) = true:=by unfold listD; rw [PyData.eqv]; exact eqv_all eqv_pair ps
theorem eqv_rows (L:List (List PV)):PyData.eqv (.list (L.map listD)) (.list (L.map listD)) = true:=by rw [PyData.eqv]; exact eqv_all eqv_list L
theorem depth_all {α:Type} {f:α -> PyData} {n:Nat} (h:∀ a,(f a).depth <= n):∀ l:List α,PyData.depthAll (l.map f) <= n
 | [] => Nat.zero_le _
 | a :: l => by
  rw [List.map_cons,PyData.depthAll]
  have:=h a
  have:=depth_all h l
  lia
theorem depth_pair (p:PV):(pairD p).depth <= 10:=by
 obtain ⟨k,v⟩:=p
 cases v <;> simp [pairD,valD,PyData.depth,PyData.depthAll]
theorem depth_list (p:List PV):(listD p).depth <= 20:=by
 have:=depth_all depth_pair p
 unfold listD; simp [PyData.depth]; lia
theorem depth_rows (L:List (List PV)):(PyData.list (L.map listD)).depth <= 30:=by
 have:=depth_all depth_list L
 simp [PyData.depth]; lia
theorem eqD_rows (L:List (List PV)):eqD (.list (L.map listD)) (.list (L.map listD)) = some true:=by
 have h:=depth_rows L
 show (if min (PyData.list (L.map listD)).depth (PyData.list (L.map listD)).depth <= 64 then some (PyData.eqv (.list (L.map listD)) (.list (L.map listD))) else none) = _
 rw [if_pos (by lia),eqv_rows]
theorem qs_len (x:List Nat) (j:Nat):(qs j x).length <= (j + 2) * x.length:=by
 cases j with
 | zero => show x.length <= _; (simp +arith)
 | succ j =>
  rw [qs_sent]
  exact sentF_len (j + 1) x []
theorem compD_map {α:Type} {f:PyData -> Option (Option PyData)} {en g:α -> PyData}:∀ {zs:List α},(∀ z ∈ zs,f (en z) = some (some (g z))) -> compD f (zs.map en) = some (zs.map g)
 | [],_ => rfl
 | z :: zs,h => by
  rw [List.map_cons]
  show ((f (en z)).bind fun o => (compD f (zs.map en)).map (consO o)) = _
  rw [h z List.mem_cons_self,compD_map fun y m => h y (List.mem_cons_of_mem _ m)]; rfl
theorem x_comp {F:Str -> List RV -> Option PyData} {α:Type} {it e:E} {ρ:List RV} {d0:PyData} {zs:List α} {en g:α -> PyData} (h:evE F it ρ = some d0) (hi:itemsD d0 = some (zs.map en)) (he:∀ z ∈ zs,evE F e (.d (en z) :: ρ) = some (g z)) :
  evE F (.comp 1 it (.bool true) e) ρ = some (.list (zs.map g)):=by
 show (((evE F it ρ).bind itemsD).bind _) = _
 rw [h]
 show ((itemsD d0).bind _) = _
 rw [hi]
 show (compD _ (zs.map en)).map PyData.list = _
 rw [compD_map (g:=g) fun z m => ?_]; rfl
 show (if truth (.bool true) = true then (evE F e (.d (en z) :: ρ)).map some else some none) = _
 rw [if_pos (show truth (.bool true) = true from rfl),he z m]; rfl
theorem x_lc {F:Str -> List RV -> Option PyData} {a b:E} {ρ:List RV} {x:PyData} {xs:List PyData} (h:evE F a ρ = some x) (h2:evL F b ρ = some xs):evL F (.cons a b) ρ = some (x :: xs):=by
 show ((evE F a ρ).bind fun x => (evL F b ρ).map (x :: ·)) = _
 rw [h,Option.bind_some,h2]; rfl
theorem mod_pos (a b:Int) (h:0 < b):binD .Mod (.int a) (.int b) = some (.int (a.fmod b)):=if_pos h
theorem div_pos (a b:Int) (h:0 < b /\ b < 1073741824):binD .FloorDiv (.int a) (.int b) = some (.int (a.fdiv b)):=if_pos h
theorem cut_take {α:Type} (l:List α) (k:Nat):cut l none (some (k:Int)) = l.take k:=by
 unfold cut hiOf loOf nSl
 simp only [List.drop_zero]
 rw [if_neg (by (simp +arith)),Int.toNat_natCast,List.take_eq_take_iff]
 (simp +arith)
theorem cut_drop {α:Type} (l:List α) (k:Nat) (h:k <= l.length):cut l (some (k:Int)) none = l.drop k:=by
 unfold cut hiOf loOf nSl
 simp only
 rw [if_neg (by (simp +arith)),Int.toNat_natCast,List.take_length,Nat.min_eq_left h]
noncomputable def nums (own:List Int) (m:Int) (ns:List Int) (k:Nat):List Int:=(ns.take k).map (·.fmod m) ++ own.drop ((ns.take k).map (·.fmod m)).length
theorem nums_len (own:List Int) (m:Int) (ns:List Int) (k:Nat) (h:own.length = k):(nums own m ns k).length = k:=by
 unfold nums
 rw [List.length_append,List.length_drop,List.length_map,List.length_take,h,Nat.add_sub_cancel' (Nat.min_le_left _ _)]
section
variable {F:Str -> List RV -> Option PyData} {a b:E} {ρ:List RV} {x y z:PyData}
theorem x_chr (h:evE F a ρ = some x) (h2:chrD x = some z):evE F (.chr_ a) ρ = some z:=by
 show (evE F a ρ).bind chrD = _
 rw [h]; exact h2
theorem x_idx (h:evE F a ρ = some x) (h2:evE F b ρ = some y) (h3:idxD x y = some z):evE F (.idx a b) ρ = some z:=by
 show ((evE F a ρ).bind fun x => (evE F b ρ).bind fun y => idxD x y) = _
 rw [h,Option.bind_some,h2]; exact h3
theorem x_meth {m:Str} {es:E} {ys:List PyData} (h:evE F a ρ = some x) (h2:evL F es ρ = some ys) (h3:methD m x ys = some z):evE F (.meth m a es) ρ = some z:=by
 show ((evE F a ρ).bind fun x => (evL F es ρ).bind fun ys => methD m x ys) = _
 rw [h,Option.bind_some,h2]; exact h3
end
end Mine
end
section
open PySem PySem.W PyProof.Rows
set_option Elab.async false
set_option maxHeartbeats 8000000
open_top hd2 for PySem.Challenge.rw_rl0043_02
end
section
namespace Mine
open PySem PySem.Builtin PySem.Builtin.Re PySem.F PySem.W PyProof.Rows
noncomputable def f2_unmatched:Fn:={ name:="unmatched",np:=1,slots:=[("match",.local),("start",.local),("end",.local)],lam:=none,body:=b3_unmatched }
noncomputable def f2_split_header_words:Fn:={ name:="split_header_words",np:=1,slots:=[("header_values",.local),("result",.local),("text",.local),("orig_text",.local),("pairs",.local),("m",.local),("name",.local),("value",.local),("non_junk",.local),("nr_junk_chars",.local)],lam:=some ⟨26,49,26,84⟩,body:=b3_split_header_words }
noncomputable def f2_join_header_words:Fn:={ name:="join_header_words",np:=1,slots:=[("lists",.local),("headers",.local),("pairs",.local),("attr",.local),("k",.local),("v",.local)],lam:=some ⟨57,50,57,87⟩,body:=b3_join_header_words }
noncomputable def f2_quotedata:Fn:={ name:="quotedata",np:=1,slots:=[("data",.local)],lam:=none,body:=b3_quotedata }
noncomputable def b2__law_pieces:Bk:=
 (.own 1 (.lst .nil) (.for_ [2] (.var 0) (.asg 3 (.idx (.tup (.cons (.str (mkS [46])) (.cons (.str (mkS [10])) (.cons (.str (mkS [13])) (.cons (.str (mkS [34])) (.cons (.str (mkS [92])) (.cons (.str (mkS [32])) (.cons (.str (mkS [59])) (.cons (.str (mkS [44])) (.cons (.str (mkS [97])) (.cons (.chr_ (.bin .Add (.int 256) (.bin .Mod (.bin .FloorDiv (.var 2) (.int 20)) (.int 4096)))) .nil))))))))))) (.bin .Mod (.var 2) (.int 10))) (.app 1 (.tup (.cons (.bor (.cons (.cmp .Eq (.var 3) (.str (mkS [34]))) (.cons (.cmp .Eq (.var 3) (.str (mkS [92]))) (.cons (.cmp .Eq (.bin .Mod (.bin .FloorDiv (.var 2) (.int 10)) (.int 2)) (.int 1)) .nil)))) (.cons (.var 3) .nil))) .nil)) (.frz 1 (.ret (.var 1)))))
noncomputable def f2__law_pieces:Fn:={ name:="_law_pieces",np:=1,slots:=[("numbers",.local),("pieces",.local),("x",.local),("sign",.local)],lam:=none,body:=b2__law_pieces }
noncomputable def b2__law_written:Bk:=
 (.ret (.bin .Add (.bin .Add (.bin .Add (.var 0) (.str (mkS [61,34]))) (.meth "join" (.str (mkS [])) (.cons (.comp 2 (.var 1) (.bool true) (.bin .Add (.ite (.var 0) (.str (mkS [92])) (.str (mkS []))) (.var 1))) .nil))) (.str (mkS [34]))))
noncomputable def f2__law_written:Fn:={ name:="_law_written",np:=2,slots:=[("key",.local),("pieces",.local)],lam:=none,body:=b2__law_written }
noncomputable def b2__law_value:Bk:=
 (.asg 2 (.str (mkS [])) (.asg 3 (.str (mkS [])) (.asg 4 (.bool false) (.for_ [5,6] (.var 0) (.ite (.band (.cons (.cmp .In (.var 6) (.str (mkS [13,10]))) (.cons (.cmp .Gt (.var 1) (.int 0)) .nil))) (.ite (.bor (.cons (.var 5) (.cons (.cmp .NotEq (.bin .Add (.var 3) (.var 6)) (.str (mkS [13,10]))) .nil))) (.aug 2 .Add (.str (mkS [13,10])) .nil) .nil (.asg 4 (.bool true) .nil)) (.aug 2 .Add (.ite (.band (.cons (.var 4) (.cons (.cmp .Eq (.var 6) (.str (mkS [46]))) (.cons (.not_ (.var 5)) .nil)))) (.bin .Add (.bin .Mult (.str (mkS [46])) (.var 1)) (.var 6)) (.var 6)) (.asg 4 (.bool false) .nil)) (.asg 3 (.var 6) .nil)) (.ret (.var 2))))))
noncomputable def f2__law_value:Fn:={ name:="_law_value",np:=2,slots:=[("pieces",.local),("sendings",.local),("value",.local),("last",.local),("behind",.local),("shielded",.local),("sign",.local)],lam:=none,body:=b2__law_value }
noncomputable def b2__law_reading:Bk:=
 (.own1 2 (.for_ [3,4,5] (.var 0) (.ite (.cmp .In (.str (mkS [44])) (.var 3)) (.appo 2 (.lst .nil) .nil) .nil (.iteR (.band (.cons (.cmp .Eq (.var 1) (.int 0)) (.cons (.cmp .In (.tup (.cons (.bool true) (.cons (.str (mkS [10])) .nil))) (.var 5)) .nil))) 6 "_law_written" (.cons (.var 4) (.cons (.var 5) .nil)) (.for_ [7] (.rng (.len (.var 6))) (.ite (.cmp .Gt (.var 7) (.int 0)) (.appo 2 (.lst .nil) .nil) .nil (.for_ [8] (.meth "split" (.idx (.var 6) (.var 7)) .nil) (.ite (.cmp .In (.str (mkS [61])) (.var 8)) (.appl 2 (.tup (.cons (.var 4) (.cons (.slc (.var 8) (.bin .Add (.len (.var 4)) (.int 1)) .none) .nil))) .nil) (.appl 2 (.tup (.cons (.var 8) (.cons .none .nil))) .nil) .nil) .nil)) .nil) (.asg 9 (.ite (.bor (.cons (.cmp .Eq (.var 3) (.str (mkS []))) (.cons (.cmp .In (.idx (.var 3) (.neg (.int 1))) (.str (mkS [13,10]))) .nil))) (.var 1) (.int 0)) (.appl 2 (.tup (.cons (.bin .Add (.bin .Mult (.str (mkS [46])) (.var 9)) (.var 4)) (.cons (.call "_law_value" (.cons (.var 5) (.cons (.var 1) .nil))) .nil))) .nil)) .nil)) (.frz 2 (.ret (.comp 1 (.var 2) (.cmp .NotEq (.var 0) (.lst .nil)) (.var 0))))))
noncomputable def f2__law_reading:Fn:={ name:="_law_reading",np:=2,slots:=[("words",.local),("sendings",.local),("lists",.local),("gap",.local),("key",.local),("pieces",.local),("parts",.local),("k",.local),("stretch",.local),("dots",.local)],lam:=none,body:=b2__law_reading }
noncomputable def b2__law_anew:Bk:=
 (.own 1 (.lst .nil) (.for_ [2] (.var 0) (.appo 1 (.comp 2 (.var 2) (.bool true) (.tup (.cons (.var 0) (.cons (.ite (.cmp .Is (.var 1) .none) .none (.call "_law_value" (.cons (.comp 1 (.var 1) (.bool true) (.tup (.cons (.bool false) (.cons (.var 0) .nil)))) (.cons (.int 1) .nil)))) .nil)))) .nil) (.set00 1 (mkS [46]) (.frz 1 (.ret (.var 1))))))
noncomputable def f2__law_anew:Fn:={ name:="_law_anew",np:=1,slots:=[("lists",.local),("due",.local),("pairs",.local)],lam:=none,body:=b2__law_anew }
noncomputable def b2_law:Bk:=
 (.asg 1 (.lst (.cons (.int 8) (.cons (.int 11) (.cons (.int 0) (.cons (.int 7) (.cons (.int 102) (.cons (.int 1) (.cons (.int 0) (.cons (.int 10) (.cons (.int 213) (.cons (.int 2) (.cons (.int 10) (.cons (.int 4) .nil))))))))))))) (.asg 2 (.comp 1 (.slc (.var 0) .none (.int 12)) (.bool true) (.bin .Mod (.var 0) (.int 1000000))) (.asg 3 (.bin .Add (.var 2) (.slc (.var 1) (.len (.var 2)) .none)) (.own 4 (.lst .nil) (.asg 5 (.str (mkS [])) (.for_ [6] (.rng (.int 3)) (.asg 7 (.ite (.cmp .Gt (.var 6) (.int 0)) (.idx (.tup (.cons (.str (mkS [59])) (.cons (.str (mkS [10])) (.cons (.str (mkS [44,13])) (.cons (.str (mkS [32])) .nil))))) (.bin .Mod (.bin .FloorDiv (.idx (.var 3) (.bin .Mult (.int 4) (.var 6))) (.int 100)) (.int 4))) (.str (mkS []))) (.asg 8 (.call "_law_pieces" (.cons (.slc (.var 3) (.bin .Mult (.int 4) (.var 6)) (.bin .Add (.bin .Mult (.int 4) (.var 6)) (.int 4))) .nil)) (.app 4 (.tup (.cons (.var 7) (.cons (.bin .Add (.str (mkS [46])) (.idx (.str (mkS [112,113,114])) (.var 6))) (.cons (.var 8) .nil)))) (.aug 5 .Add (.bin .Add (.var 7) (.call "_law_written" (.cons (.bin .Add (.str (mkS [46])) (.idx (.str (mkS [112,113,114])) (.var 6))) (.cons (.var 8) .nil)))) .nil)))) (.for_ [9] (.rng (.int 3)) (.asg 10 (.call "split_header_words" (.cons (.lst (.cons (.var 5) .nil)) .nil)) (.frz 4 (.ite (.cmp .NotEq (.var 10) (.call "_law_reading" (.cons (.var 4) (.cons (.var 9) .nil)))) (.ret (.bool false)) .nil (.ite (.cmp .NotEq (.call "split_header_words" (.cons (.lst (.cons (.call "quotedata" (.cons (.call "join_header_words" (.cons (.var 10) .nil)) .nil)) .nil)) .nil)) (.call "_law_anew" (.cons (.var 10) .nil))) (.ret (.bool false)) .nil (.asg 5 (.call "quotedata" (.cons (.var 5) .nil)) .nil))))) (.ret (.bool true)))))))))
noncomputable def f2_law:Fn:={ name:="law",np:=1,slots:=[("script",.local),("own",.local),("given",.local),("numbers",.local),("words",.local),("text",.local),("k",.local),("gap",.local),("pieces",.local),("sendings",.local),("lists",.local)],lam:=none,body:=b2_law }
noncomputable def fns2:List Fn:=[f2_unmatched,f2_split_header_words,f2_join_header_words,f2_quotedata,f2__law_pieces,f2__law_written,f2__law_value,f2__law_reading,f2__law_anew,f2_law]
noncomputable def G2:GC:=⟨[("CRLF",mkS [13,10])],["unmatched","split_header_words","join_header_words","quotedata","_law_pieces","_law_written","_law_value","_law_reading","_law_anew","law"]⟩
theorem ok2_unmatched:fnOkIn G2 hd2.view_39 f2_unmatched = true:=by decide +kernel
theorem ok2_split_header_words:fnOkIn G2 hd2.view_39 f2_split_header_words = true:=by decide +kernel
theorem ok2_join_header_words:fnOkIn G2 hd2.view_39 f2_join_header_words = true:=by decide +kernel
theorem ok2_quotedata:fnOkIn G2 hd2.view_39 f2_quotedata = true:=by decide +kernel
theorem ok2_law_pieces:fnOkIn G2 hd2.view_39 f2__law_pieces = true:=by decide +kernel
theorem ok2_law_written:fnOkIn G2 hd2.view_39 f2__law_written = true:=by decide +kernel
theorem ok2_law_value:fnOkIn G2 hd2.view_39 f2__law_value = true:=by decide +kernel
theorem ok2_law_reading:fnOkIn G2 hd2.view_39 f2__law_reading = true:=by decide +kernel
theorem ok2_law_anew:fnOkIn G2 hd2.view_39 f2__law_anew = true:=by decide +kernel
theorem ok2_law:fnOkIn G2 hd2.view_39 f2_law = true:=by decide +kernel
noncomputable def lq (f:Str):Str:=f ++ ".<locals>." ++ "<lambda>"
noncomputable def lams2:List Lam:=[⟨69,65,⟨26,49,26,84⟩,lq "split_header_words"⟩,⟨86,82,⟨57,50,57,87⟩,lq "join_header_words"⟩]
noncomputable def C2 (w:World) (h:Heap) (mg mb:Str -> Option Value):Cx:={ prog:=PySem.Challenge.rw_rl0043_02.row.prog,w:=w,hb:=h,mg:=mg,mb:=mb,G:=G2,lams:=lams2 }
theorem C2_T {w:World} {h:Heap} {mg mb:Str -> Option Value}:(C2 w h mg mb).T = [65,82]:=rfl
noncomputable def patAddr2:Pat -> Addr
 | .dot => 92 | .eol => 97 | .junk => 36 | .tok => 48 | .quo => 53 | .val => 58 | .esc => 63 | .jtok => 75 | .jesc => 80
theorem pats2 (P:Params):∀ p:Pat,mgIn (hd2.heap_39 P) p.name = some (.ref (patAddr2 p)) /\ PatAt (hd2.heap_39 P) (patAddr2 p) p:=fun p => match p with
 | .tok => ⟨by kernel_rfl,"^\\s*([^=\\s;,]+)",322,32,367,47,by kernel_rfl,by kernel_rfl⟩
 | .quo => ⟨by kernel_rfl,"^\\s*=\\s*\\\"([^\\\"\\\\]*(?:\\\\.[^\\\"\\\\]*)*)\\\"",370,32,445,52,by kernel_rfl,by kernel_rfl⟩
 | .val => ⟨by kernel_rfl,"^\\s*=\\s*([^\\s;,]*)",448,32,500,57,by kernel_rfl,by kernel_rfl⟩
 | .esc => ⟨by kernel_rfl,"\\\\(.)",503,32,523,62,by kernel_rfl,by kernel_rfl⟩
 | .junk => ⟨by kernel_rfl,"^[=\\s;]*",285,32,310,35,by kernel_rfl,by kernel_rfl⟩
 | .jtok => ⟨by kernel_rfl,"[!#$%&'*+\\-.^_`|~0-9A-Za-z]+",542,32,568,74,by kernel_rfl,by kernel_rfl⟩
 | .jesc => ⟨by kernel_rfl,"([\\\"\\\\])",571,32,596,79,by kernel_rfl,by kernel_rfl⟩
 | .dot => ⟨by kernel_rfl,"(?m)^\\.",613,40,626,91,by kernel_rfl,by kernel_rfl⟩
 | .eol => ⟨by kernel_rfl,"(?:\\r\\n|\\n|\\r(?!\\n))",629,32,668,96,by kernel_rfl,by kernel_rfl⟩
theorem free2 (P:Params):∀ x ∈ (["len","sum","min","chr","range","isinstance","str"]:List Str),mgNo (hd2.heap_39 P) x = true:=by
 intro x hx
 simp only [List.mem_cons,List.not_mem_nil,or_false] at hx
 rcases hx with rfl | rfl | rfl | rfl | rfl | rfl | rfl <;> kernel_rfl
section
variable {loose:List Str} {R:WRecords} {XP:(Str -> Option Value) -> Heap -> Prop} {mean:ExcName -> Option Value} {w:World} {s₀:Shared} {mg mb:Str -> Option Value} {h:Heap}
theorem cx2_ok (T:Top hd2.view_39 loose mean mg mb h) (X:(hd2.heap_39 w.params).In h) (tabs:∀ P ∈ [65,82],h.get? P = some (tabObj #[])):CxOk (C2 w h mg mb):=by
 have tT:∀ b ∈ [65,82],h.get? b = some (tabObj #[]):=fun b m => tabs b (by simpa using m)
 have nT:∀ b o,h.get? b = some o -> o.cls ≠ .none -> b ∉ (C2 w h mg mb).T:=fun b o e hc m => by
  have:=tT b m
  rw [e] at this; cases this; exact hc rfl
 refine ⟨T.g,(by rw [C2_T]; decide),T.b,(by rw [C2_T]; decide),T.nolimit,(by rw [C2_T]; decide),T.builtins,fun x hx => mg_no X T.g (free2 _ x hx),fun n s hs => ?_,?_,?_,fun p => ?_⟩
 ·have:(n,s) = (("CRLF":Str),mkS [13,10]):=by
   have:(n,s) ∈ G2.consts:=hs
   simpa [G2] using this
  cases this
  refine ⟨.mk (by decide) (by decide),670,mg_of X T.g (by kernel_rfl)⟩
 ·refine xEEAAAAA (T.bmain) fun bm ob h1 h2 h3 h4 h5 h6 => ?_
  exact ⟨bm,ob,h1,h2,nT bm ob h3 (by rw [h4]; exact fun q => by cases q),h3,h4,h5,h6⟩
 ·intro l hl l' hl' e
  have hl:l ∈ lams2:=hl
  have hl':l' ∈ lams2:=hl'
  simp only [lams2,List.mem_cons,List.not_mem_nil,or_false] at hl hl'
  rcases hl with rfl | rfl <;> rcases hl' with rfl | rfl <;> first | rfl | (exact absurd e (by decide))
 ·obtain ⟨h1,h2⟩:=pats2 w.params p
  refine ⟨patAddr2 p,mg_of X T.g h1,fun h' ex => ?_⟩
  have ip:=patIn_is X h2
  refine xEEEEEEEAA (ip.ex) fun x0 x1 x3 x4 tp ob n e1 e2 e3 => ?_
  refine ⟨x0,x1,x3,x4,tp,ob,n,ex _ _ (nT _ _ e1 (fun q => by cases q)) e1,ex _ _ (fun m => ?_) e2,e3⟩
  have:=tT tp m
  rw [e2] at this; cases this; cases e3
theorem gg2_ok (T:Top hd2.view_39 loose mean mg mb h) (X:(hd2.heap_39 w.params).In h) (tabs:∀ P ∈ [65,82],h.get? P = some (tabObj #[])):GG (C2 w h mg mb) (fun a => a ∈ (C2 w h mg mb).T) h:=by
 have tT:∀ b ∈ [65,82],h.get? b = some (tabObj #[]):=fun b m => tabs b (by simpa using m)
 refine ⟨EX.refl _,fun l hl => ?_,fun _ m => m,fun l hl => ?_,fun b m => ⟨_,tT b m⟩⟩
 ·have hl:l ∈ lams2:=hl
  simp only [lams2,List.mem_cons,List.not_mem_nil,or_false] at hl
  rcases hl with rfl | rfl
  ·exact ⟨codeHd_of_K X (by kernel_rfl),.inl (tT 65 (by simp))⟩
  ·exact ⟨codeHd_of_K X (by kernel_rfl),.inl (tT 82 (by simp))⟩
 ·have hl:l ∈ lams2:=hl
  simp only [lams2,List.mem_cons,List.not_mem_nil,or_false] at hl
  rw [C2_T]
  rcases hl with rfl | rfl <;> decide
theorem fn2_ok (T:Top hd2.view_39 loose mean mg mb h) (X:(hd2.heap_39 w.params).In h) (tabs:∀ P ∈ [65,82],h.get? P = some (tabObj #[])) {fn:Fn} (chk:fnOkIn G2 hd2.view_39 fn = true)
  (hlam:∀ pos,fn.lam = some pos -> ∃ a c,mgIn (hd2.heap_39 w.params) fn.name = some (.ref a) /\ codeOf (hd2.heap_39 w.params) a = some (.ref c) /\ ∃ l ∈ lams2,l.c = c /\ l.pos = pos /\ l.q = lq fn.name) (hb:BindOk ((fn.slots.take fn.np).map (·.1))):FnOk (C2 w h mg mb) fn:=by
 have tT:∀ b ∈ [65,82],h.get? b = some (tabObj #[]):=fun b m => tabs b (by simpa using m)
 unfold fnOkIn at chk
 split at chk
 ·rename_i d hd
  have hm:=List.mem_of_find?_eq_some hd
  have hn:d.name = fn.name:=by simpa using List.find?_some hd
  refine xEEEEEAAA (T.fn d hm) fun a o pm code doc h1 h2 h3 h4 => ?_
  refine xEEEEEAAAAA (T.tab d hm) fun a' o' fd c P g1 g2 g3 g4 g5 g6 => ?_
  rw [h1] at g1; cases g1
  rw [h2] at g2; cases g2
  rw [h3] at g3; cases g3
  have hc:code = .ref c:=g4
  subst hc
  have hcT:c ∉ [65,82]:=fun m => by
   obtain ⟨⟨oo,vs,e1,e2,_⟩,_⟩:=g6
   have:=tT c m
   rw [e1] at this; cases this; cases e2
  have haT:a ∉ [65,82]:=fun m => by
   have:=tT a m
   rw [h2] at this; cases this; cases h3
  rw [hn] at h1 h3 h4
  refine ⟨⟨a,o,pm,.ref c,doc,d.params,d.body,d.scope,c,h1,h2,haT,h3,rfl,hcT,h4,chk,fun pos hp => ?_⟩,hb⟩
  refine xEEAAEAAA (hlam pos hp) fun a2 c2 k1 k2 l hl q1 q2 q3 => ?_
  have e1:=mg_of X T.g k1
  rw [h1] at e1; cases e1
  refine xEA (Option.bind_eq_some_iff.mp k2) fun o' hl2 k3 => ?_
  obtain rfl:=Option.some.inj (h2.symm.trans (X _ _ hl2))
  rw [h3] at k3
  exact ⟨l,hl,q1.trans (Value.ref.inj (Option.some.inj k3)).symm,q2,q3⟩
 ·cases chk
theorem bk_match:BindOk ["match"]:=bindOk_1 fun _ _ _ _ _ _ _ _ _ => rfl
theorem bk_header_values:BindOk ["header_values"]:=bindOk_1 fun _ _ _ _ _ _ _ _ _ => rfl
theorem bk_lists:BindOk ["lists"]:=bindOk_1 fun _ _ _ _ _ _ _ _ _ => rfl
theorem bk_data:BindOk ["data"]:=bindOk_1 fun _ _ _ _ _ _ _ _ _ => rfl
theorem bk_numbers:BindOk ["numbers"]:=bindOk_1 fun _ _ _ _ _ _ _ _ _ => rfl
theorem bk_key_pieces:BindOk ["key","pieces"]:=bindOk_2 fun _ _ _ _ _ _ _ _ _ _ _ _ => rfl
theorem bk_pieces_sendings:BindOk ["pieces","sendings"]:=bindOk_2 fun _ _ _ _ _ _ _ _ _ _ _ _ => rfl
theorem bk_words_sendings:BindOk ["words","sendings"]:=bindOk_2 fun _ _ _ _ _ _ _ _ _ _ _ _ => rfl
theorem bk_script:BindOk ["script"]:=bindOk_1 fun _ _ _ _ _ _ _ _ _ => rfl
theorem no_lam {fn:Fn} {P:Pos -> Prop} (h:fn.lam = none):∀ pos,fn.lam = some pos -> P pos:=fun pos e => nomatch h.symm.trans e
theorem fns2_ok (T:Top hd2.view_39 loose mean mg mb h) (X:(hd2.heap_39 w.params).In h) (tabs:∀ P ∈ [65,82],h.get? P = some (tabObj #[])):∀ fn ∈ fns2,FnOk (C2 w h mg mb) fn:=by
 refine List.forall_mem_cons.2 ⟨fn2_ok T X tabs ok2_unmatched (no_lam rfl) bk_match,List.forall_mem_cons.2 ⟨fn2_ok T X tabs ok2_split_header_words (fun pos e => ?_) bk_header_values,List.forall_mem_cons.2 ⟨fn2_ok T X tabs ok2_join_header_words (fun pos e => ?_) bk_lists,List.forall_mem_cons.2 ⟨fn2_ok T X tabs ok2_quotedata (no_lam rfl) bk_data,List.forall_mem_cons.2 ⟨fn2_ok T X tabs ok2_law_pieces (no_lam rfl) bk_numbers,List.forall_mem_cons.2 ⟨fn2_ok T X tabs ok2_law_written (no_lam rfl) bk_key_pieces,List.forall_mem_cons.2 ⟨fn2_ok T X tabs ok2_law_value (no_lam rfl) bk_pieces_sendings,List.forall_mem_cons.2 ⟨fn2_ok T X tabs ok2_law_reading (no_lam rfl) bk_words_sendings,List.forall_mem_cons.2 ⟨fn2_ok T X tabs ok2_law_anew (no_lam rfl) bk_lists,List.forall_mem_cons.2 ⟨fn2_ok T X tabs ok2_law (no_lam rfl) bk_script,no_mem⟩⟩⟩⟩⟩⟩⟩⟩⟩⟩
 ·exact ⟨70,69,by kernel_rfl,by kernel_rfl,_,List.mem_cons_self,rfl,Option.some.inj e,rfl⟩
 ·exact ⟨87,86,by kernel_rfl,by kernel_rfl,_,List.mem_cons_of_mem _ List.mem_cons_self,rfl,Option.some.inj e,rfl⟩
end
section
variable {R:WRecords} {cl:Str -> Option Addr} {h:Heap} {H:Addr -> Prop}
theorem ints_rds {vs:List Value} {xs:List WData} {as:List Addr} (hh:WShape.hasItems R xs .int = true) (r:ReadsAllW R cl h vs xs as):∃ ns:List Int,ns.length = xs.length /\ Rds H h vs (ns.map .int):=by
 induction xs generalizing vs as with
 | nil => cases r; exact ⟨[],rfl,.nil⟩
 | cons x xs ih =>
  obtain ⟨hh1,hh2⟩:=Bool.and_eq_true_iff.mp hh
  cases r with
  | cons r q =>
   refine xEA (ih hh2 q) fun ns hl rs => ?_
   cases x with
   | int i => cases r with | int _ t => exact ⟨i :: ns,by rw [List.length_cons,List.length_cons,hl],.cons (.int i t) rs⟩
   | _ => exact (Bool.false_ne_true hh1).elim
theorem script_of {args:List WData} {vals:List Value} {as:List Addr} (hh:WShape.hasAll R args [.list .int] = true) (hr:ReadsAllW R cl h vals args as) (nH:∀ a o,h.get? a = some o -> o.cls ≠ .none -> ¬ H a) :
  ∃ v xs,vals = [v] /\ args = [.list xs] /\ (xs.length <= big -> ∃ ns:List Int,ns.length = xs.length /\ Rd H h v (.list (ns.map .int))):=by
 cases hr with
 | nil => exact (Bool.false_ne_true hh).elim
 | cons r q =>
  obtain ⟨h1,h2⟩:=Bool.and_eq_true_iff.mp hh
  cases q with
  | cons r' q' => exact (Bool.false_ne_true h2).elim
  | nil =>
   rename_i x _
   cases x with
   | list xs => cases r with
    | list g c d rs =>
     refine ⟨_,_,rfl,rfl,fun hb => ?_⟩
     refine xEA (ints_rds (H:=H) ((Bool.or_false _).symm.trans h1) rs) fun ns hl q => ?_
     exact ⟨ns,hl,.list (by rw [List.length_map,hl]; exact hb) (nH _ _ g (by rw [c]; exact fun e => by cases e)) g c d q⟩
   | _ => exact (Bool.false_ne_true h1).elim
end
theorem len_of_pre {R:WRecords} {xs:List WData} (h:WTm.holds R (.and (.not (.lt (.lit (.int 63)) (.len (.arg 0)))) (.lit (.bool true))) { args:=[.list xs] } = true):xs.length <= 63:=by
 have h':WTm.holds R (.and (.not (.lit (.bool (decide ((63:Int) < xs.length))))) (.lit (.bool true))) { args:=[] } = true:=h
 by_cases hc:(63:Int) < xs.length
 ·rw [decide_eq_true hc] at h'; cases h'
 ·exact Int.ofNat_le.mp (Int.not_lt.mp hc)
theorem post_ok {xs:List WData}:PySem.Challenge.rw_rl0043_02.row.claim.post [.list xs] (.bool true) [.list xs] = true:=by
 show (WShape.has PySem.Challenge.rw_rl0043_02.row.records (.bool true) .bool && WTm.holds PySem.Challenge.rw_rl0043_02.row.records (.eq .res (.lit (.bool true))) { args:=[.list xs],res:=some (.bool true),after:=[.list xs] }) = true
 have e2:same (.bool true) (.bool true) = true:=by first | rfl | kernel_rfl | (unfold same; rfl)
 exact Bool.and_eq_true_iff.mpr ⟨rfl,(congrArg (fun b => WTm.holds PySem.Challenge.rw_rl0043_02.row.records (.lit (.bool b)) { args:=[] }) e2).trans rfl⟩
theorem head2 (plain:∀ ns:List Int,ns.length <= 63 -> runFn fns2 20 "law" [.d (.list (ns.map .int))] = some (.bool true)):PySem.Challenge.rw_rl0043_02.Holds:=hd2 (by
 intro w s₀ s₁ mg mb G Y a o pm cd doc dV kV h1 h2 h3 h4 h5 hg args vals as hp hl hr hw ha
 have X:=km_in_of Y
 have tabs:∀ P ∈ [65,82],s₁.heap.get? P = some (tabObj #[]):=fun P m => km_tabs_of Y P (List.mem_reverse.mpr m)
 have K:=cx2_ok (w:=w) G.T X tabs
 have gg:=gg2_ok (w:=w) G.T X tabs
 have fo:=runFn_ok K (fns2_ok (w:=w) G.T X tabs) (show ∀ f ∈ G2.fns,f ∈ fns2.map (·.name) by decide) 20
 have tT:∀ b ∈ [65,82],s₁.heap.get? b = some (tabObj #[]):=fun b m => tabs b (by simpa using m)
 have hpre:WShape.hasAll PySem.Challenge.rw_rl0043_02.row.records args [.list .int] = true /\ PySem.Challenge.rw_rl0043_02.row.pre.holds PySem.Challenge.rw_rl0043_02.row.records { args:=args } = true:=by
  have:=hp
  exact Bool.and_eq_true_iff.mp this
 obtain ⟨v,xs,rfl,rfl,k⟩:=script_of (H:=fun a => a ∈ (C2 w s₁.heap mg mb).T) hpre.1 hr (fun a o e hc m => by
  have:=tT a m
  rw [e] at this; cases this; exact hc rfl)
 have hlen:xs.length <= 63:=by
  have h9:=hpre.2
  have e:PySem.Challenge.rw_rl0043_02.row.pre = .and (.not (.lt (.lit (.int 63)) (.len (.arg 0)))) (.lit (.bool true)):=rfl
  rw [e] at h9
  exact len_of_pre h9
 refine xEA (k (Nat.le_trans hlen (by decide))) fun ns hn rd => ?_
 refine fo "law" [.d (.list (ns.map .int))] (.bool true) (plain ns (by lia)) ?_ callerA ?_ _ s₁ [v] _ _ gg rfl (fun i rv v' e1 e2 => ?_) ?_ a h5
 ·show ("law":Str) ∈ G2.fns; decide
 ·exact ⟨rfl,by decide,by decide⟩
 ·cases i with
  | zero => simp at e1 e2; subst e1 e2; exact rd
  | succ i => simp at e1
 ·intro v' h' tk ex g' r
  rw [Rd.bool_inv r]
  refine ⟨.inl ⟨.bool true,.bool true,[],rfl,fun _ => rfl,.bool true,post_ok,fun _ => ⟨List.nodup_nil,fun _ m => nomatch m⟩⟩,?_,rfl,?_⟩
  ·refine ⟨fun b ob e => ?_,fun b ob e => ?_⟩
   ·by_cases hb:b ∈ (C2 w s₁.heap mg mb).T
    ·refine xEA (List.mem_map.mp hb) fun l hl' r2 => ?_
     obtain rfl:=r2
     have e0:=tT l.P hb
     rw [e] at e0; cases e0
     obtain ⟨cd0,_⟩:=gg.lam l hl'
     refine xEEEEEEEEEAAAA (cd0) fun oc vs file tf flags tg inF text tt c1 c2 c3 c4 _ => ?_
     refine .inr (.inl ⟨⟨l.c,oc,vs,c1,c2,c3,c4⟩,rfl,#[],?_⟩)
     rcases (g'.lam l hl').2 with q | ⟨c',q,_⟩
     ·exact ⟨#[],rfl,q⟩
     ·exact ⟨#[rawInt l.pos.line,rawInt l.pos.col,.ref c'],rfl,by simpa using q⟩
    ·exact .inl (ex b ob hb e)
   ·by_cases hb:b ∈ (C2 w s₁.heap mg mb).T
    ·exact g'.live b hb
    ·exact ⟨ob,ex b ob hb e⟩
  ·show AllBare s₁.gens
   rw [hg]
   exact AllBare.of_eq rfl)
theorem tk_nj {c:Nat} (h:isTk c = true):isJunk c = false:=by
 unfold isTk at h; unfold isJunk
 rw [Bool.not_eq_true',Bool.or_eq_false_iff,Bool.or_eq_false_iff,Bool.or_eq_false_iff] at h
 rw [h.1.1.1,h.1.1.2,h.2]; rfl
theorem NH.app {P:Nat -> Bool} {nm X:List Nat} (h0:nm ≠ []) (h:∀ c ∈ nm,P c = false):NH P (nm ++ X):=by
 cases nm with
 | nil => exact (h0 rfl).elim
 | cons c r => exact .cons (h c List.mem_cons_self)
section
variable {t w:List Nat} {ps:List PV} {R L:List (List PV)}
theorem cat_e {w0 X:List Nat} (e:t = w0 ++ X):w ++ t = (w ++ w0) ++ X:=by rw [e,List.append_assoc]
theorem Reads'.ws (hw:∀ c ∈ w,isSp c = true) (r:Reads' t ps R L):Reads' (w ++ t) ps R L:=by
 have cat:∀ {w0:List Nat},(∀ c ∈ w0,isSp c = true) -> ∀ c ∈ w ++ w0,isSp c = true:=fun h c m => (List.mem_append.mp m).elim (hw c) (h c)
 cases r with
 | done =>
  cases w with
  | nil => exact .done
  | cons a w => exact .blank (by rw [List.append_nil]; exact hw) (by simp)
 | quo e h1 h2 h3 h4 h5 h6 r => exact .quo (cat_e e) (cat h1) h2 h3 h4 h5 h6 r
 | «open» e h1 h2 h3 h4 h5 h6 h7 h8 h9 r => exact .open (cat_e e) (cat h1) h2 h3 h4 h5 h6 h7 h8 h9 r
 | tok e h1 h2 h3 h4 h5 h6 h7 r => exact .tok (cat_e e) (cat h1) h2 h3 h4 h5 h6 h7 r
 | comma e h1 r => exact .comma (cat_e e) (cat h1) r
 | junk e h1 h2 h3 h4 r => exact .junk (cat_e e) (cat h1) h2 h3 h4 r
 | blank h1 h0 => exact .blank (cat h1) fun e => h0 (List.append_eq_nil_iff.mp e).2
theorem Reads'.jk {j rest:List Nat} (e:t = j ++ rest) (hj:∀ c ∈ j,isJunk c = true) (hr:NH isJunk rest) (r:Reads' rest ps R L):Reads' (59 :: t) ps R L:=
 .junk (w:=[]) (c:=59) (by rw [e]; rfl) no_mem (.inr rfl) hj hr r
theorem Reads'.semi (r:Reads' t ps R L):Reads' (59 :: t) ps R L:=by
 have key:∀ {w:List Nat},(∀ c ∈ w,isSp c = true) -> ∀ c ∈ w,isJunk c = true:=fun h c m => sp_junk (h c m)
 cases r with
 | done => exact .jk (j:=[]) rfl no_mem .nil .done
 | quo e h1 h2 h3 h4 h5 h6 r => exact .jk e (key h1) (.app h3 fun c m => tk_nj (h2 c m)) (.quo (w:=[]) rfl no_mem h2 h3 h4 h5 h6 r)
 | «open» e h1 h2 h3 h4 h5 h6 h7 h8 h9 r => exact .jk e (key h1) (.app h3 fun c m => tk_nj (h2 c m)) (.open (w:=[]) rfl no_mem h2 h3 h4 h5 h6 h7 h8 h9 r)
 | tok e h1 h2 h3 h4 h5 h6 h7 r => exact .jk e (key h1) (.app h3 fun c m => tk_nj (h2 c m)) (.tok (w:=[]) rfl no_mem h2 h3 h4 h5 h6 h7 r)
 | comma e h1 r => exact .jk e (key h1) (.cons (by decide +kernel)) (.comma (w:=[]) rfl no_mem r)
 | @junk _ w c j rest _ _ _ e h1 h2 h3 h4 r =>
  refine .jk (j:=w ++ c :: j) (rest:=rest) (by rw [e,List.append_assoc]; rfl) (fun d m => ?_) h4 r
  rcases List.mem_append.mp m with m | m
  ·exact key h1 d m
  ·rcases List.mem_cons.mp m with rfl | m
   ·rcases h2 with rfl | rfl <;> decide +kernel
   ·exact h3 d m
 | blank h1 h0 => exact .jk (j:=t) (rest:=[]) (List.append_nil _).symm (key h1) .nil .done
noncomputable def kOk (p:PV):Prop:=p.1 ≠ [] /\ ∀ c ∈ p.1,isTk c = true
noncomputable def rOk (row:List PV):Prop:=row ≠ [] /\ ∀ p ∈ row,kOk p
theorem put_ok (hp:∀ p ∈ ps,kOk p) (hR:∀ row ∈ R,rOk row):∀ row ∈ put ps R,rOk row:=by
 unfold put
 cases ps with
 | nil => exact hR
 | cons p ps =>
  intro row m
  rcases List.mem_append.mp m with m | m
  ·exact hR row m
  ·rw [List.mem_singleton.mp m]; exact ⟨List.cons_ne_nil _ _,hp⟩
theorem add_ok {p:PV} (hp:∀ p ∈ ps,kOk p) (h:kOk p):∀ q ∈ ps ++ [p],kOk q:=fun q m => (List.mem_append.mp m).elim (hp q) fun m => by rw [List.mem_singleton.mp m]; exact h
theorem Reads'.keys (r:Reads' t ps R L):(∀ p ∈ ps,kOk p) -> (∀ row ∈ R,rOk row) -> ∀ row ∈ L,rOk row:=by
 induction r with
 | done => exact put_ok
 | quo e h1 h2 h3 h4 h5 h6 r ih => exact fun hp hR => ih (add_ok hp ⟨h3,h2⟩) hR
 | «open» e h1 h2 h3 h4 h5 h6 h7 h8 h9 r ih => exact fun hp hR => ih (add_ok hp ⟨h3,h2⟩) hR
 | tok e h1 h2 h3 h4 h5 h6 h7 r ih => exact fun hp hR => ih (add_ok hp ⟨h3,h2⟩) hR
 | comma e h1 r ih => exact fun hp hR => ih no_mem (put_ok hp hR)
 | junk e h1 h2 h3 h4 r ih => exact ih
 | blank h1 h0 => exact put_ok
noncomputable def muP (p:PV):Nat:=p.1.length + 2 * (p.2.getD []).length + 12
noncomputable def mu (ps:List PV):Nat:=(ps.map muP).sum
noncomputable def muL (L:List (List PV)):Nat:=(L.map mu).sum
theorem mu_add (p:PV):mu (ps ++ [p]) = mu ps + muP p:=by unfold mu; rw [List.map_append,List.sum_append]; rfl
theorem mu_put:muL (put ps R) = muL R + mu ps:=by
 unfold put
 cases ps with
 | nil => rfl
 | cons p ps => show muL (R ++ [p :: ps]) = _; unfold muL; rw [List.map_append,List.sum_append]; rfl
theorem esc_len:∀ l:List Nat,(escL l).length <= l.length
 | [] => Nat.le_refl _
 | [c] => Nat.le_refl _
 | c :: e :: r => by
  rw [escL]
  split
  ·exact Nat.le_succ_of_le (Nat.succ_le_succ (esc_len r))
  ·exact Nat.succ_le_succ (esc_len (e :: r))
theorem mu_p {n e v:Nat} (h0:1 <= n) (h:e <= v):n + 2 * e + 12 <= 14 * (n + v):=by lia
theorem mu_step {a b m p k r t:Nat} (ih:a <= b + (m + p) + 14 * r) (hp:p <= 14 * k) (ht:k + r <= t):a <= b + m + 14 * t:=by lia
theorem mu_put' {a b m r t:Nat} (ih:a <= b + m + 0 + 14 * r) (ht:r <= t):a <= b + m + 14 * t:=Nat.le_trans ih (Nat.add_le_add_left (Nat.mul_le_mul_left 14 ht) _)
theorem len_in {w n x v r c:Nat} (h:v + r <= x):n + v + r <= w + (n + x):=by lia
theorem len_tl {a b c:List Nat} (h:a = b ++ c):c.length <= a.length:=by rw [h,List.length_append]; exact Nat.le_add_left _ _
theorem Reads'.mu (r:Reads' t ps R L):muL L <= muL R + Mine.mu ps + 14 * t.length:=by
 have one:∀ {T w nm X v rest:List Nat} {ps:List PV} {R L:List (List PV)} {o:Option (List Nat)},T = w ++ (nm ++ X) -> nm ≠ [] -> v.length + rest.length <= X.length -> (o.getD []).length <= v.length -> muL L <= muL R + Mine.mu (ps ++ [(nm,o)]) + 14 * rest.length -> muL L <= muL R + Mine.mu ps + 14 * T.length:=fun e h0 hl ho ih => by
  rw [mu_add] at ih
  refine mu_step ih (mu_p (len_pos h0) ho) ?_
  rw [e,List.length_append,List.length_append]
  exact len_in (c:=0) hl
 induction r with
 | done => rw [mu_put]; exact Nat.le_add_right _ _
 | @quo t w nm w1 w2 v rest ps R L e h1 h2 h3 h4 h5 h6 r ih => exact one (v:=v) (o:=some (escL v)) e h3 (by simp only [List.length_append,List.length_cons]; lia) (esc_len v) ih
 | @«open» t w nm w1 w2 v rest ps R L e h1 h2 h3 h4 h5 h6 h7 h8 h9 r ih => exact one (v:=v) (o:=some v) e h3 (by simp only [List.length_append,List.length_cons]; lia) (Nat.le_refl _) ih
 | @tok t w nm w1 rest ps R L e h1 h2 h3 h4 h5 h6 h7 r ih => exact one (v:=[]) (o:=none) e h3 (Nat.le_of_eq (Nat.zero_add _)) (Nat.le_refl _) ih
 | @comma t w rest ps R L e h1 r ih => rw [mu_put] at ih; exact mu_put' ih (Nat.le_trans (Nat.le_succ _) (len_tl e))
 | @junk t w c j rest ps R L e h1 h2 h3 h4 r ih => exact Nat.le_trans ih (Nat.add_le_add_left (Nat.mul_le_mul_left 14 (Nat.le_trans (Nat.le_trans (len_tl rfl) (Nat.le_succ _)) (len_tl e))) _)
 | blank h1 h0 => rw [mu_put]; exact Nat.le_add_right _ _
theorem flat_put:(put ps R).flatten = R.flatten ++ ps:=by
 unfold put
 cases ps with
 | nil => exact (List.append_nil _).symm
 | cons p ps => show (R ++ [p :: ps]).flatten = _; rw [List.flatten_append]; simp
theorem Reads'.flat (r:Reads' t ps R L):∃ S,L.flatten = R.flatten ++ (ps ++ S):=by
 induction r with
 | done => exact ⟨[],by rw [flat_put,List.append_nil]⟩
 | quo e h1 h2 h3 h4 h5 h6 r ih => exact ih.imp' (_ :: ·) fun S e => by rw [e,List.append_assoc]; rfl
 | «open» e h1 h2 h3 h4 h5 h6 h7 h8 h9 r ih => exact ih.imp' (_ :: ·) fun S e => by rw [e,List.append_assoc]; rfl
 | tok e h1 h2 h3 h4 h5 h6 h7 r ih => exact ih.imp' (_ :: ·) fun S e => by rw [e,List.append_assoc]; rfl
 | comma e h1 r ih => exact ih.imp fun S e => by rw [e,flat_put,List.append_assoc]; rfl
 | junk e h1 h2 h3 h4 r ih => exact ih
 | blank h1 h0 => exact ⟨[],by rw [flat_put,List.append_nil]⟩
theorem no_ws {c:Nat} {r w X:List Nat} (e:c :: r = w ++ X) (hc:isSp c = false) (hw:∀ c ∈ w,isSp c = true):w = []:=by
 cases w with
 | nil => rfl
 | cons d w =>
  have:=hw d List.mem_cons_self
  rw [<- (List.cons.inj e).1,hc] at this; cases this
theorem first_tk {c:Nat} {r nm X:List Nat} (e:c :: r = nm ++ X) (h0:nm ≠ []):nm.head? = some c:=by
 cases nm with
 | nil => exact (h0 rfl).elim
 | cons d nm => rw [<- (List.cons.inj e).1]; rfl
theorem sp46:isSp 46 = false:=by decide +kernel
theorem tk46 {t0 nm X t':List Nat} {v:Option (List Nat)} (e:t = w ++ (nm ++ X)) (hw:∀ c ∈ w,isSp c = true) (h0:nm ≠ []) (r:Reads' t' (ps ++ [(nm,v)]) R L) (ht:t = 46 :: t0):∃ p S,L.flatten = R.flatten ++ (ps ++ p :: S) /\ p.1.head? = some 46:=by
 have e:=ht.symm.trans e
 rw [no_ws e sp46 hw] at e
 exact xEA (r.flat.imp fun S e => ⟨e,trivial⟩) fun S e2 _ => ⟨(nm,v),S,by rw [e2,List.append_assoc]; rfl,first_tk e h0⟩
theorem no46 {t0 X:List Nat} {d:Nat} {P:Prop} (e:t = w ++ d :: X) (hw:∀ c ∈ w,isSp c = true) (hd:46 ≠ d) (ht:t = 46 :: t0):P:=by
 have e:=ht.symm.trans e
 rw [no_ws e sp46 hw] at e
 exact absurd (List.cons.inj e).1 hd
theorem Reads'.head46' {t0:List Nat} (r:Reads' t ps R L):t = 46 :: t0 -> ∃ p S,L.flatten = R.flatten ++ (ps ++ p :: S) /\ p.1.head? = some 46:=by
 cases r with
 | done => exact nofun
 | quo e h1 h2 h3 h4 h5 h6 r => exact tk46 e h1 h3 r
 | «open» e h1 h2 h3 h4 h5 h6 h7 h8 h9 r => exact tk46 e h1 h3 r
 | tok e h1 h2 h3 h4 h5 h6 h7 r => exact tk46 e h1 h3 r
 | comma e h1 r => exact no46 e h1 (by decide)
 | junk e h1 h2 h3 h4 r => exact no46 e h1 fun q => absurd h2 (by rw [<- q]; decide)
 | blank h1 h0 => exact fun ht => absurd (h1 46 (by rw [ht]; exact List.mem_cons_self)) (by rw [sp46]; decide)
theorem Reads'.head46 (r:Reads' (46 :: t) [] [] L):∃ p S,L.flatten = p :: S /\ p.1.head? = some 46:=r.head46' rfl
end
theorem tk_eol {c:Nat} (h:isTk c = true):c ≠ 10 /\ c ≠ 13:=by
 constructor <;> (rintro rfl; revert h; decide +kernel)
theorem eol_key (X:List Nat):∀ k:List Nat,(∀ c ∈ k,isTk c = true) -> eolL (k ++ X) = k ++ eolL X:=by
 intro k
 induction k with
 | nil => intro _; rfl
 | cons c k ih => intro h; rw [List.cons_append,eolL_keep _ (tk_eol (h c List.mem_cons_self)),ih fun d m => h d (List.mem_cons_of_mem _ m)]; rfl
theorem dot_key (X:List Nat):∀ k:List Nat,(∀ c ∈ k,isTk c = true) -> dotL false (k ++ X) = k ++ dotL false X:=by
 intro k
 induction k with
 | nil => intro _; rfl
 | cons c k ih =>
  intro h
  rw [List.cons_append,dotL_keep _ (.inr rfl),show (c == 10) = false from beq_false_of_ne (tk_eol (h c List.mem_cons_self)).1,ih fun d m => h d (List.mem_cons_of_mem _ m)]; rfl
theorem sq_key {k:List Nat} (X:List Nat) (h:∀ c ∈ k,isTk c = true):sq false (k ++ X) = k ++ sq false X:=by
 unfold sq; rw [eol_key X k h,dot_key _ k h]
noncomputable def seP (p:PV):PV:=(p.1,p.2.map (sq false))
noncomputable def seL (L:List (List PV)):List (List PV):=L.map (·.map seP)
theorem sq_pair {p:PV} (h:kOk p):sq false (joinPair p) = joinPair (seP p):=by
 obtain ⟨k,v⟩:=p
 cases v with
 | none => show sq false k = k; rw [<- List.append_nil k,sq_key [] h.2,sq_nil]
 | some v => show sq false (k ++ 61 :: joinV v) = k ++ 61 :: joinV (sq false v); rw [sq_key _ h.2,sq_cons _ (by decide),sq_joinV]
theorem sq_joinL {c:Nat} (hc:c ≠ 10 /\ c ≠ 13 /\ c ≠ 46):∀ xs:List (List Nat),sq false (joinL [c,32] xs) = joinL [c,32] (xs.map (sq false)):=by
 intro xs
 induction xs with
 | nil => exact sq_nil false
 | cons x xs ih =>
  cases xs with
  | nil => rfl
  | cons y r =>
   show sq false (x ++ [c,32] ++ joinL [c,32] (y :: r)) = sq false x ++ [c,32] ++ joinL [c,32] ((y :: r).map (sq false))
   rw [<- ih,List.append_assoc,List.append_assoc]
   show sq false (x ++ c :: 32 :: joinL [c,32] (y :: r)) = sq false x ++ c :: 32 :: sq false (joinL [c,32] (y :: r))
   rw [sq_sep _ _ hc,sq_cons _ (by decide)]
theorem map_eq_on {α β:Type} {f g:α -> β} {l:List α} (h:∀ a ∈ l,f a = g a):l.map f = l.map g:=List.map_congr_left h
theorem sq_row {row:List PV} (h:∀ p ∈ row,kOk p):sq false (joinRow row) = joinRow (row.map seP):=by
 unfold joinRow
 rw [sq_joinL (by decide),List.map_map,List.map_map]
 exact congrArg _ (map_eq_on fun p m => sq_pair (h p m))
theorem sq_rows {L:List (List PV)} (h:∀ row ∈ L,rOk row):sq false (joinAll L) = joinAll (seL L):=by
 unfold joinAll seL
 rw [sq_joinL (by decide),List.map_map,List.map_map]
 exact congrArg _ (map_eq_on fun row m => sq_row (h row m).2)
theorem se_ok {L:List (List PV)} (h:∀ row ∈ L,rOk row):∀ row ∈ seL L,rOk row:=fun row m => by
 obtain ⟨r,mr,rfl⟩:=List.mem_map.mp m
 refine ⟨fun e => (h r mr).1 (List.map_eq_nil_iff.mp e),fun p mp => ?_⟩
 obtain ⟨q,mq,rfl⟩:=List.mem_map.mp mp
 exact (h r mr).2 q mq
noncomputable def preA:List (List PV) -> List (List PV)
 | (p :: row) :: rest => ((46 :: p.1,p.2) :: row) :: rest
 | L => L
theorem pre_all {p:PV} {row:List PV} {rest:List (List PV)}:joinAll (preA ((p :: row) :: rest)) = 46 :: joinAll ((p :: row) :: rest):=by
 have e1:joinPair (46 :: p.1,p.2) = 46 :: joinPair p:=by obtain ⟨k,v⟩:=p; cases v <;> rfl
 have e2:joinRow ((46 :: p.1,p.2) :: row) = 46 :: joinRow (p :: row):=by
  cases row with
  | nil => exact e1
  | cons q r => show joinPair (46 :: p.1,p.2) ++ [59,32] ++ joinRow (q :: r) = _; rw [e1]; rfl
 cases rest with
 | nil => exact e2
 | cons q r => show joinRow ((46 :: p.1,p.2) :: row) ++ [44,32] ++ joinAll (q :: r) = _; rw [e2]; rfl
theorem pre_ok {L:List (List PV)} (h:∀ row ∈ L,rOk row):∀ row ∈ preA L,rOk row:=by
 cases L with
 | nil => exact h
 | cons row rest => cases row with
  | nil => exact h
  | cons p row =>
   intro q m
   rcases List.mem_cons.mp m with rfl | m
   ·refine ⟨List.cons_ne_nil _ _,fun z mz => ?_⟩
    rcases List.mem_cons.mp mz with rfl | mz
    ·refine ⟨List.cons_ne_nil _ _,fun c mc => ?_⟩
     rcases List.mem_cons.mp mc with rfl | mc
     ·decide +kernel
     ·exact ((h _ List.mem_cons_self).2 p List.mem_cons_self).2 c mc
    ·exact (h _ List.mem_cons_self).2 z (List.mem_cons_of_mem _ mz)
   ·exact h q (List.mem_cons_of_mem _ m)
theorem sp32:∀ c ∈ [32],isSp c = true:=fun c m => by rw [List.mem_singleton.mp m]; decide +kernel
theorem nh44 {P:Nat -> Bool} {rest:List Nat} (h:rest = [] \/ ∃ r,rest = 44 :: r) (hp:P 44 = false):NH P rest:=by
 rcases h with rfl | ⟨r,rfl⟩
 ·exact .nil
 ·exact .cons hp
theorem isTk44:isTk 44 = false:=by decide +kernel
theorem isV44:isV 44 = false:=by decide +kernel
theorem isTk59:isTk 59 = false:=by decide +kernel
theorem isV59:isV 59 = false:=by decide +kernel
theorem sp59:isSp 59 = false:=by decide +kernel
theorem reads_one {p:PV} {ps:List PV} {R L:List (List PV)} {rest:List Nat} (h:kOk p) (h1:NH isSp rest) (h2:NH (· == 61) rest) (h3:NH isTk rest) (h4:NH isV rest) (r:Reads' rest (ps ++ [p]) R L):Reads' (joinPair p ++ rest) ps R L:=by
 obtain ⟨k,v⟩:=p
 cases v with
 | none => exact .tok (w:=[]) (nm:=k) (w1:=[]) rfl no_mem h.2 h.1 no_mem h1 h2 h3 r
 | some v => exact reads_pair (by show (k ++ 61 :: joinV v) ++ rest = _; rw [List.append_assoc]; rfl) h.2 h.1 h4 r
theorem reads_row {rest:List Nat} {R L:List (List PV)} (hr:rest = [] \/ ∃ r,rest = 44 :: r):∀ (row:List PV) (ps:List PV),row ≠ [] -> (∀ p ∈ row,kOk p) -> Reads' rest (ps ++ row) R L -> Reads' (joinRow row ++ rest) ps R L:=by
 intro row
 induction row with
 | nil => intro _ h; exact (h rfl).elim
 | cons p row ih =>
  intro ps _ hk r
  cases row with
  | nil => exact reads_one (hk p List.mem_cons_self) (nh44 hr sp44) (nh44 hr rfl) (nh44 hr isTk44) (nh44 hr isV44) r
  | cons q row =>
   show Reads' (joinPair p ++ [59,32] ++ joinRow (q :: row) ++ rest) ps R L
   rw [List.append_assoc,List.append_assoc]
   have ih':=ih (ps ++ [p]) (List.cons_ne_nil _ _) (fun z m => hk z (List.mem_cons_of_mem _ m)) (by rw [List.append_assoc]; exact r)
   exact reads_one (hk p List.mem_cons_self) (.cons sp59) (.cons rfl) (.cons isTk59) (.cons isV59) (Reads'.semi (Reads'.ws sp32 ih'))
theorem reads_all:∀ (L:List (List PV)) (R:List (List PV)),L ≠ [] -> (∀ row ∈ L,rOk row) -> Reads' (joinAll L) [] R (R ++ L):=by
 intro L
 induction L with
 | nil => intro _ h; exact (h rfl).elim
 | cons row L ih =>
  intro R _ hk
  have h:=hk row List.mem_cons_self
  have hp:put row R = R ++ [row]:=by
   unfold put
   cases row with
   | nil => exact (h.1 rfl).elim
   | cons p r => rfl
  cases L with
  | nil =>
   show Reads' (joinRow row) [] R (R ++ [row])
   rw [<- List.append_nil (joinRow row),<- hp]
   exact reads_row (.inl rfl) row [] h.1 h.2 .done
  | cons q L =>
   have ih':=ih (R ++ [row]) (List.cons_ne_nil _ _) fun z m => hk z (List.mem_cons_of_mem _ m)
   rw [List.append_assoc] at ih'
   show Reads' (joinRow row ++ [44,32] ++ joinAll (q :: L)) [] R (R ++ ([row] ++ q :: L))
   rw [List.append_assoc]
   refine reads_row (.inr ⟨_,rfl⟩) row [] h.1 h.2 (.comma (w:=[]) (rest:=32 :: joinAll (q :: L)) rfl no_mem ?_)
   rw [List.nil_append,hp]
   exact Reads'.ws sp32 ih'
noncomputable def anewL (L:List (List PV)):List (List PV):=preA (seL L)
theorem anew_reads {t:List Nat} {L:List (List PV)} (r:Reads' (46 :: t) [] [] L):Reads' (sq true (joinAll L)) [] [] (anewL L):=by
 have hk:=r.keys no_mem no_mem
 obtain ⟨p,S,hf,hp⟩:=r.head46
 cases L with
 | nil => cases hf
 | cons row rest => cases row with
  | nil => exact ((hk [] List.mem_cons_self).1 rfl).elim
  | cons q row =>
   obtain rfl:q = p:=(List.cons.inj hf).1
   have hs:=se_ok hk
   have e1:∃ r,joinAll ((q :: row) :: rest) = 46 :: r:=by
    obtain ⟨k,v⟩:=q
    cases k with
    | nil => cases hp
    | cons c k =>
     obtain rfl:c = 46:=Option.some.inj hp
     have e0:∃ r,joinPair (46 :: k,v) = 46 :: r:=by cases v <;> exact ⟨_,rfl⟩
     obtain ⟨r0,e0⟩:=e0
     have e2:∃ r,joinRow ((46 :: k,v) :: row) = 46 :: r:=by
      cases row with
      | nil => exact ⟨_,e0⟩
      | cons z y => exact ⟨_,by show joinPair (46 :: k,v) ++ [59,32] ++ joinRow (z :: y) = _; rw [e0]; rfl⟩
     obtain ⟨r2,e2⟩:=e2
     cases rest with
     | nil => exact ⟨_,e2⟩
     | cons z y => exact ⟨_,by show joinRow ((46 :: k,v) :: row) ++ [44,32] ++ joinAll (z :: y) = _; rw [e2]; rfl⟩
   obtain ⟨r1,e1⟩:=e1
   have e3:sq true (joinAll ((q :: row) :: rest)) = 46 :: sq false (joinAll ((q :: row) :: rest)):=by
    rw [e1]; unfold sq; rw [eolL_keep _ (by decide),dotL_dot,dotL_keep _ (.inr rfl)]; rfl
   have e4:sq true (joinAll ((q :: row) :: rest)) = joinAll (anewL ((q :: row) :: rest)):=by
    rw [e3,sq_rows hk]; exact pre_all.symm
   rw [e4]
   exact reads_all (anewL ((q :: row) :: rest)) [] (List.cons_ne_nil _ _) (pre_ok hs)
noncomputable abbrev Pc:=Bool × Nat
noncomputable def wr1 (p:Pc):List Nat:=if p.1 = true then [92,p.2] else [p.2]
noncomputable def wr (ps:List Pc):List Nat:=ps.flatMap wr1
theorem wr_cons (p:Pc) (r:List Pc):wr (p :: r) = wr1 p ++ wr r:=List.flatMap_cons
noncomputable def pcOk (p:Pc):Prop:=(p.2 = 34 \/ p.2 = 92) -> p.1 = true
noncomputable abbrev isE (c:Nat):Prop:=c = 13 \/ c = 10
noncomputable def lvC (n:Nat) (b:Bool) (last:List Nat) (p:Pc):List Nat:=
 if isE p.2 /\ 0 < n then (if p.1 = true \/ last ++ [p.2] ≠ [13,10] then [13,10] else []) else if b = true /\ p.2 = 46 /\ p.1 = false then List.replicate n 46 ++ [46] else [p.2]
noncomputable def lvB (n:Nat) (p:Pc):Bool:=decide (isE p.2 /\ 0 < n)
noncomputable def lvF (n:Nat):Bool -> List Nat -> List Pc -> List Nat
 | _,_,[] => []
 | b,last,p :: r => lvC n b last p ++ lvF n (lvB n p) [p.2] r
noncomputable def vC (n:Nat) (last:List Nat) (p:Pc):List Nat:=if p.1 = true then (if isE p.2 then [13,10] else [p.2]) else sentC n last p.2
noncomputable def vF (n:Nat):List Nat -> List Pc -> List Nat
 | _,[] => []
 | last,p :: r => vC n last p ++ vF n [p.2] r
theorem lvC_eq {n:Nat} {b:Bool} {last:List Nat} {p:Pc} (hn:0 < n) (hb:b = decide (last = [13] \/ last = [10])):lvC n b last p = vC n last p:=by
 obtain ⟨sh,c⟩:=p
 unfold lvC vC
 by_cases h1:isE c
 ·rw [if_pos ⟨h1,hn⟩]
  cases sh with
  | true => rw [if_pos (.inl rfl),if_pos rfl,if_pos h1]
  | false =>
   rw [if_neg Bool.false_ne_true]
   unfold sentC
   rw [if_pos h1]
   by_cases h2:last ++ [c] = [13,10]
   ·rw [if_neg fun q => q.elim (fun e => Bool.false_ne_true e) fun e => e h2,if_pos h2]
   ·rw [if_pos (.inr h2),if_neg h2]
 ·rw [if_neg fun q => h1 q.1]
  cases sh with
  | true => rw [if_neg fun q => Bool.false_ne_true q.2.2.symm,if_pos rfl,if_neg h1]
  | false =>
   rw [if_neg Bool.false_ne_true]
   unfold sentC
   rw [if_neg h1,hb]
   by_cases h2:c = 46 /\ (last = [13] \/ last = [10])
   ·rw [if_pos ⟨decide_eq_true h2.2,h2.1,rfl⟩,if_pos h2,List.replicate_succ']
   ·rw [if_neg fun q => h2 ⟨q.2.1,of_decide_eq_true q.1⟩,if_neg h2]
theorem lvB_eq {n:Nat} {p:Pc} (hn:0 < n):lvB n p = decide ([p.2] = [13] \/ [p.2] = [10]):=by
 unfold lvB
 refine decide_eq_decide.mpr ⟨fun q => q.1.imp (congrArg fun x => [x]) (congrArg fun x => [x]),fun q => ⟨q.imp (fun e => (List.cons.inj e).1) fun e => (List.cons.inj e).1,hn⟩⟩
theorem lvF_eq2 {n:Nat} (hn:0 < n):∀ (ps:List Pc) (b:Bool) (last:List Nat),b = decide (last = [13] \/ last = [10]) -> lvF n b last ps = vF n last ps:=by
 intro ps
 induction ps with
 | nil => intro _ _ _; rfl
 | cons p r ih =>
  intro b last hb
  show lvC n b last p ++ lvF n (lvB n p) [p.2] r = vC n last p ++ vF n [p.2] r
  rw [lvC_eq hn hb,ih _ _ (lvB_eq hn)]
theorem esc_plain (X:List Nat):∀ w:List Nat,(∀ c ∈ w,isQ c = true) -> escL (w ++ X) = w ++ escL X /\ qb (w ++ X) = qb X:=by
 intro w h
 refine ⟨?_,qb_plains h⟩
 induction w with
 | nil => rfl
 | cons c w ih => rw [List.cons_append,escL_keep _ (fun e => by have:=h c List.mem_cons_self; rw [e] at this; cases this),ih fun d m => h d (List.mem_cons_of_mem _ m)]; rfl
theorem isQ_of {c:Nat} (h:¬ (c = 34 \/ c = 92)):isQ c = true:=by
 unfold isQ
 rw [Bool.not_eq_true',Bool.or_eq_false_iff]
 exact ⟨beq_false_of_ne fun e => h (.inl e),beq_false_of_ne fun e => h (.inr e)⟩
theorem sentC_q {n c:Nat} {last:List Nat} (h:isQ c = true):∀ d ∈ sentC n last c,isQ d = true:=by
 intro d m
 unfold sentC at m
 split at m
 ·split at m
  ·cases m
  ·rcases List.mem_cons.mp m with rfl | m
   ·rfl
   ·rw [List.mem_singleton.mp m]; rfl
 ·split at m
  ·rw [(List.mem_replicate.mp m).2]; rfl
  ·rw [List.mem_singleton.mp m]; exact h
theorem val_sent {n:Nat}:∀ (ps:List Pc) (last:List Nat),(∀ p ∈ ps,pcOk p) -> escL (sentF n last (wr ps)) = vF n last ps /\ qb (sentF n last (wr ps)) = true:=by
 intro ps
 induction ps with
 | nil => intro _ _; exact ⟨rfl,rfl⟩
 | cons p r ih =>
  intro last h
  obtain ⟨e1,e2⟩:=ih [p.2] fun q m => h q (List.mem_cons_of_mem _ m)
  have hp:=h p List.mem_cons_self
  obtain ⟨sh,c⟩:=p
  rw [wr_cons]
  show escL (sentF n last (wr1 (sh,c) ++ wr r)) = vC n last (sh,c) ++ vF n [c] r /\ _
  rw [<- e1]
  cases sh with
  | true =>
   show escL (sentC n last 92 ++ (sentC n [92] c ++ sentF n [c] (wr r))) = _ /\ qb (sentC n last 92 ++ (sentC n [92] c ++ sentF n [c] (wr r))) = true
   rw [sentC_keep (by decide) (fun e => absurd e (by decide))]
   generalize sentF n [c] (wr r) = X at *
   unfold vC
   rw [if_pos rfl]
   by_cases hc:isE c
   ·have:sentC n [92] c = [13,10]:=by
     rcases hc with rfl | rfl
     ·exact sentC_cr n _
     ·exact sentC_lf (by decide)
    rw [this,if_pos hc]
    constructor
    ·show escL (92 :: 13 :: (10 :: X)) = 13 :: 10 :: escL X
     rw [escL_esc _ _ (by decide),escL_keep _ (by decide)]
    ·show qb (92 :: 13 :: (10 :: X)) = true
     rw [qb_esc _ _ (by decide),qb_plain _ rfl,e2]
   ·have h10:c ≠ 10:=fun e => hc (.inr e)
    rw [sentC_keep ⟨h10,fun e => hc (.inl e)⟩ fun _ q => q.elim (fun q => absurd (List.cons.inj q).1 (by decide)) fun q => absurd (List.cons.inj q).1 (by decide)]
    have hi:(if isE (true,c).2 then [13,10] else [(true,c).2]) = [c]:=if_neg hc
    rw [hi]
    exact ⟨escL_esc c X h10,(qb_esc c X h10).trans e2⟩
  | false =>
   show escL (sentC n last c ++ sentF n [c] (wr r)) = _ /\ qb (sentC n last c ++ sentF n [c] (wr r)) = true
   have hq:isQ c = true:=isQ_of fun e => Bool.false_ne_true (hp e)
   obtain ⟨f1,f2⟩:=esc_plain (sentF n [c] (wr r)) _ (sentC_q (n:=n) (last:=last) hq)
   exact ⟨f1,f2.trans e2⟩
noncomputable def brk (ps:List Pc):Bool:=ps.contains (true,10)
theorem lvF_zero2:∀ (ps:List Pc) (last:List Nat),lvF 0 false last ps = ps.map (·.2):=by
 intro ps
 induction ps with
 | nil => intro _; rfl
 | cons p r ih =>
  intro last
  show lvC 0 false last p ++ lvF 0 (lvB 0 p) [p.2] r = p.2 :: r.map (·.2)
  rw [show lvB 0 p = false from decide_eq_false fun q => absurd q.2 (Nat.lt_irrefl 0),ih]
  unfold lvC
  rw [if_neg fun q => absurd q.2 (Nat.lt_irrefl 0),if_neg fun q => Bool.false_ne_true q.1]; rfl
theorem one_plain {p:Pc} (X:List Nat) (hp:pcOk p) (h10:p ≠ (true,10)):escL (wr1 p ++ X) = p.2 :: escL X /\ qb (wr1 p ++ X) = qb X:=by
 obtain ⟨sh,c⟩:=p
 cases sh with
 | true =>
  have h:c ≠ 10:=fun e => h10 (by rw [e])
  exact ⟨escL_esc c X h,qb_esc c X h⟩
 | false => exact esc_plain X [c] fun d m => by rw [List.mem_singleton.mp m]; exact isQ_of fun e => Bool.false_ne_true (hp e)
theorem val_zero:∀ ps:List Pc,(∀ p ∈ ps,pcOk p) -> (true,10) ∉ ps -> escL (wr ps) = ps.map (·.2) /\ qb (wr ps) = true:=by
 intro ps
 induction ps with
 | nil => intro _ _; exact ⟨rfl,rfl⟩
 | cons p r ih =>
  intro h hb
  obtain ⟨e1,e2⟩:=ih (fun q m => h q (List.mem_cons_of_mem _ m)) fun m => hb (List.mem_cons_of_mem _ m)
  obtain ⟨f1,f2⟩:=one_plain (wr r) (h p List.mem_cons_self) fun e => hb (by rw [e]; exact List.mem_cons_self)
  rw [wr_cons]
  exact ⟨f1.trans (congrArg _ e1),f2.trans e2⟩
theorem brk_mem {ps:List Pc}:brk ps = true ↔ (true,10) ∈ ps:=List.contains_iff_mem
theorem val_good {n:Nat} {ps:List Pc} (ok:∀ p ∈ ps,pcOk p) (h:(n == 0 && brk ps) = false):escL (qs n (wr ps)) = lvF n false [] ps /\ qb (qs n (wr ps)) = true:=by
 cases n with
 | zero =>
  rw [lvF_zero2]
  exact val_zero ps ok fun m => by rw [brk_mem.mpr m] at h; cases h
 | succ n =>
  rw [qs_sent,lvF_eq2 (Nat.succ_pos n) ps false [] rfl]
  exact val_sent ps [] ok
theorem val_bad:∀ ps:List Pc,(∀ p ∈ ps,pcOk p) -> (true,10) ∈ ps -> ∃ v r,wr ps = v ++ 92 :: 10 :: r /\ qb v = true:=by
 intro ps
 induction ps with
 | nil => intro _ m; cases m
 | cons p r ih =>
  intro h m
  by_cases e:p = (true,10)
  ·exact ⟨[],wr r,by rw [wr_cons,e]; rfl,rfl⟩
  ·obtain ⟨v,x,e1,e2⟩:=ih (fun q m => h q (List.mem_cons_of_mem _ m)) ((List.mem_cons.mp m).resolve_left fun q => e q.symm)
   refine ⟨wr1 p ++ v,x,by rw [wr_cons,e1,List.append_assoc],?_⟩
   rw [(one_plain v (h p List.mem_cons_self) e).2,e2]
theorem vF_plain {n:Nat}:∀ (v:List Nat) (last:List Nat),vF n last (v.map fun c => (false,c)) = sentF n last v:=by
 intro v
 induction v with
 | nil => intro _; rfl
 | cons c v ih => intro last; show vC n last (false,c) ++ vF n [c] (v.map fun c => (false,c)) = sentC n last c ++ sentF n [c] v; rw [ih]; rfl
theorem val_anew (v:List Nat):lvF 1 false [] (v.map fun c => (false,c)) = sq false v:=by
 rw [lvF_eq2 (by decide) _ false [] rfl,vF_plain]
 exact (qs_sent v 0).symm
noncomputable def filt (R:List (List PV)):List (List PV):=R.filter fun r => !r.isEmpty
theorem put_filt (ps:List PV) (R:List (List PV)):put ps (filt R) = filt (R ++ [ps]):=by
 unfold put filt
 rw [List.filter_append]
 cases ps with
 | nil => exact (List.append_nil _).symm
 | cons p r => rfl
noncomputable def emit (k st:List Nat):PV:=if st.contains 61 = true then (k,some (st.drop (k.length + 1))) else (st,none)
noncomputable def addE (k:List Nat) (ps:List PV) (cur:List Nat):List PV:=if cur.isEmpty = true then ps else ps ++ [emit k cur]
noncomputable abbrev MS:=List (List PV) × List PV × List Nat
noncomputable def mstep (k:List Nat) (s:MS) (c:Nat):MS:=
 if c = 44 then (s.1 ++ [addE k s.2.1 s.2.2],[],[]) else if isSp c = true \/ c = 59 then (s.1,addE k s.2.1 s.2.2,[]) else (s.1,s.2.1,s.2.2 ++ [c])
noncomputable def mend (k:List Nat) (s:MS):List (List PV) × List PV:=(s.1,addE k s.2.1 s.2.2)
noncomputable def mach (k:List Nat) (q:List (List PV) × List PV) (X:List Nat):List (List PV) × List PV:=mend k (X.foldl (mstep k) (q.1,q.2,[]))
theorem tk_iff {c:Nat}:isTk c = true ↔ c ≠ 61 /\ c ≠ 59 /\ c ≠ 44 /\ isSp c = false:=by
 unfold isTk
 rw [Bool.not_eq_true',Bool.or_eq_false_iff,Bool.or_eq_false_iff,Bool.or_eq_false_iff,beq_eq_false_iff_ne,beq_eq_false_iff_ne,beq_eq_false_iff_ne,and_assoc,and_assoc]
theorem v_iff {c:Nat}:isV c = true ↔ isSp c = false /\ c ≠ 59 /\ c ≠ 44:=by
 unfold isV
 rw [Bool.not_eq_true',Bool.or_eq_false_iff,Bool.or_eq_false_iff,beq_eq_false_iff_ne,beq_eq_false_iff_ne,and_assoc]
theorem mstep_keep {k:List Nat} {s:MS} {c:Nat} (h:isV c = true):mstep k s c = (s.1,s.2.1,s.2.2 ++ [c]):=by
 obtain ⟨h1,h2,h3⟩:=v_iff.mp h
 unfold mstep
 rw [if_neg h3,if_neg fun q => q.elim (fun e => by rw [h1] at e; cases e) h2]
theorem fold_keep {k:List Nat}:∀ (w:List Nat) (R:List (List PV)) (ps:List PV) (cur:List Nat),(∀ c ∈ w,isV c = true) -> w.foldl (mstep k) (R,ps,cur) = (R,ps,cur ++ w):=by
 intro w
 induction w with
 | nil => intro R ps cur _; rw [List.append_nil]; rfl
 | cons c w ih => intro R ps cur h; rw [List.foldl_cons,mstep_keep (h c List.mem_cons_self),ih _ _ _ fun d m => h d (List.mem_cons_of_mem _ m),List.append_assoc]; rfl
noncomputable def NE (t:List Nat):Prop:=NH (· == 61) (t.dropWhile isSp)
theorem NE.cons {c:Nat} {t:List Nat} (h:c ≠ 61) (r:NE t):NE (c :: t):=by
 unfold NE
 rw [List.dropWhile_cons]
 cases hc:isSp c with
 | true => rw [if_pos rfl]; exact r
 | false => rw [if_neg Bool.false_ne_true]; exact .cons (beq_false_of_ne h)
theorem NE.app {rest:List Nat} (r:NE rest):∀ X:List Nat,(∀ c ∈ X,c ≠ 61) -> NE (X ++ rest):=by
 intro X
 induction X with
 | nil => intro _; exact r
 | cons c X ih => intro h; exact .cons (h c List.mem_cons_self) (ih fun d m => h d (List.mem_cons_of_mem _ m))
theorem emit_tok {k cur:List Nat} (h:∀ c ∈ cur,isTk c = true):emit k cur = (cur,none):=by
 unfold emit
 rw [if_neg fun e => (tk_iff.mp (h 61 (List.contains_iff_mem.mp e))).1 rfl]
theorem flush_tok {k cur Y:List Nat} {ps:List PV} {R L:List (List PV)} (h:∀ c ∈ cur,isTk c = true) (h1:NH isTk Y) (h2:NE Y) (r:Reads' Y (addE k ps cur) R L):Reads' (cur ++ Y) ps R L:=by
 cases cur with
 | nil => exact r
 | cons c cur =>
  replace r:Reads' Y (ps ++ [emit k (c :: cur)]) R L:=r
  rw [emit_tok h] at r
  have hY:Y.takeWhile isSp ++ Y.dropWhile isSp = Y:=List.takeWhile_append_dropWhile
  refine .tok (w:=[]) (nm:=c :: cur) (w1:=Y.takeWhile isSp) (rest:=Y.dropWhile isSp) (by rw [hY]; rfl) no_mem h (List.cons_ne_nil _ _) (tw_all Y) (dw_nh Y) h2 (by rw [hY]; exact h1) (by rw [hY]; exact r)
theorem mach_reads {k rest:List Nat} {L:List (List PV)} (hT:NH isTk rest) (hE:NE rest):∀ (X:List Nat),(∀ c ∈ X,c ≠ 61) -> ∀ (R:List (List PV)) (ps:List PV) (cur:List Nat),(∀ c ∈ cur,isTk c = true) ->
  Reads' rest (mend k (X.foldl (mstep k) (R,ps,cur))).2 (filt (mend k (X.foldl (mstep k) (R,ps,cur))).1) L -> Reads' (cur ++ (X ++ rest)) ps (filt R) L:=by
 intro X
 induction X with
 | nil => intro _ R ps cur hc r; exact flush_tok hc hT hE r
 | cons c X ih =>
  intro h R ps cur hc r
  have hX:∀ d ∈ X,d ≠ 61:=fun d m => h d (List.mem_cons_of_mem _ m)
  have ne:NE (c :: (X ++ rest)):=.cons (h c List.mem_cons_self) (hE.app X hX)
  rw [List.foldl_cons] at r
  rw [List.cons_append]
  by_cases h44:c = 44
  ·subst h44
   refine flush_tok (k:=k) hc (.cons isTk44) ne (.comma (w:=[]) rfl no_mem ?_)
   rw [put_filt]
   exact ih hX _ _ [] no_mem r
  ·by_cases hs:isSp c = true \/ c = 59
   ·have e:mstep k (R,ps,cur) c = (R,addE k ps cur,[]):=by unfold mstep; rw [if_neg h44,if_pos hs]
    rw [e] at r
    have r1:=ih hX _ _ [] no_mem r
    refine flush_tok (k:=k) hc (.cons ?_) ne ?_
    ·cases ht:isTk c with
     | false => rfl
     | true =>
      obtain ⟨_,a,_,b⟩:=tk_iff.mp ht
      rcases hs with hs | hs
      ·rw [hs] at b; cases b
      ·exact (a hs).elim
    ·rcases hs with hs | rfl
     ·exact Reads'.ws (w:=[c]) (fun d m => by rw [List.mem_singleton.mp m]; exact hs) r1
     ·exact Reads'.semi r1
   ·have hv:isV c = true:=v_iff.mpr ⟨by cases hsp:isSp c with | false => rfl | true => exact (hs (.inl hsp)).elim,fun e => hs (.inr e),h44⟩
    obtain ⟨v1,v2,v3⟩:=v_iff.mp hv
    rw [mstep_keep hv] at r
    have:=ih hX R ps (cur ++ [c]) (fun d m => (List.mem_append.mp m).elim (hc d) fun m => by rw [List.mem_singleton.mp m]; exact tk_iff.mpr ⟨h c List.mem_cons_self,v2,v3,v1⟩) r
    rw [List.append_assoc] at this
    exact this
theorem mach_first {k rest:List Nat} {L R:List (List PV)} {ps:List PV} (hk:∀ c ∈ k,isTk c = true) (k0:k ≠ []) (hT:NH isTk rest) (hE:NE rest) (hV:NH isV rest):∀ (X v:List Nat),(∀ c ∈ X,c ≠ 61) -> (∀ c ∈ v,isV c = true) -> srchD .quo (61 :: 34 :: (v ++ (X ++ rest))).toArray = none ->
  Reads' rest (mend k (X.foldl (mstep k) (R,ps,k ++ 61 :: 34 :: v))).2 (filt (mend k (X.foldl (mstep k) (R,ps,k ++ 61 :: 34 :: v))).1) L -> Reads' (k ++ 61 :: 34 :: (v ++ (X ++ rest))) ps (filt R) L:=by
 have em:∀ v,addE k ps (k ++ 61 :: 34 :: v) = ps ++ [(k,some (34 :: v))]:=fun v => by
  have hne:(k ++ 61 :: 34 :: v).isEmpty = false:=by cases k <;> rfl
  have hc:(k ++ 61 :: 34 :: v).contains 61 = true:=List.contains_iff_mem.mpr (List.mem_append_right _ List.mem_cons_self)
  unfold addE emit
  rw [hne,if_neg Bool.false_ne_true,if_pos hc,show k ++ 61 :: 34 :: v = (k ++ [61]) ++ 34 :: v by rw [List.append_assoc]; rfl,List.drop_left' (by rw [List.length_append]; rfl)]
 have h34:isV 34 = true:=by decide +kernel
 have go:∀ (v Y:List Nat),(∀ c ∈ v,isV c = true) -> NH isV Y -> srchD .quo (61 :: 34 :: (v ++ Y)).toArray = none -> Reads' Y (ps ++ [(k,some (34 :: v))]) (filt R) L -> Reads' (k ++ 61 :: 34 :: (v ++ Y)) ps (filt R) L:=fun v Y hv hY hq r =>
  .open (w:=[]) (nm:=k) (w1:=[]) (w2:=[]) (v:=34 :: v) (rest:=Y) rfl no_mem hk k0 no_mem no_mem (.cons isSp34) hq (fun c m => by
   rcases List.mem_cons.mp m with rfl | m
   ·exact h34
   ·exact hv c m) hY r
 intro X
 induction X with
 | nil => intro v _ hv hq r; exact go v rest hv hV hq (by rw [<- em v]; exact r)
 | cons c X ih =>
  intro v h hv hq r
  cases hc:isV c with
  | true =>
   rw [List.foldl_cons,mstep_keep hc] at r
   have e1:v ++ (c :: X ++ rest) = (v ++ [c]) ++ (X ++ rest):=by rw [List.append_assoc]; rfl
   rw [e1] at hq ⊢
   refine ih (v ++ [c]) (fun d m => h d (List.mem_cons_of_mem _ m)) (fun d m => (List.mem_append.mp m).elim (hv d) fun m => by rw [List.mem_singleton.mp m]; exact hc) hq ?_
   have e2:k ++ 61 :: 34 :: (v ++ [c]) = k ++ 61 :: 34 :: v ++ [c]:=by rw [List.append_assoc]; rfl
   rw [e2]; exact r
  | false =>
   refine go v (c :: X ++ rest) hv (.cons hc) hq (mach_reads (k:=k) hT hE (c :: X) h R _ [] no_mem ?_)
   have e3:mstep k (R,ps,k ++ 61 :: 34 :: v) c = mstep k (R,ps ++ [(k,some (34 :: v))],[]) c:=by
    unfold mstep
    by_cases h44:c = 44
    ·rw [if_pos h44,if_pos h44,em]; rfl
    ·have hs:isSp c = true \/ c = 59:=by
      refine Classical.byContradiction fun q => ?_
      rw [v_iff.mpr ⟨by cases hsp:isSp c with | false => rfl | true => exact (q (.inl hsp)).elim,fun e => q (.inr e),h44⟩] at hc
      cases hc
     rw [if_neg h44,if_neg h44,if_pos hs,if_pos hs,em]; rfl
   rw [List.foldl_cons,e3] at r
   exact r
theorem bad_reads {k rest:List Nat} {q:List (List PV) × List PV} {L:List (List PV)} {ps:List Pc} (hk:∀ c ∈ k,isTk c = true) (k0:k ≠ []) (hT:NH isTk rest) (hE:NE rest) (hV:NH isV rest) (ok:∀ p ∈ ps,pcOk p) (h61:∀ p ∈ ps,p.2 ≠ 61) (hb:(true,10) ∈ ps)
  (r:Reads' rest (mach k q (k ++ 61 :: 34 :: (wr ps ++ [34]))).2 (filt (mach k q (k ++ 61 :: 34 :: (wr ps ++ [34]))).1) L):Reads' (k ++ 61 :: 34 :: (wr ps ++ 34 :: rest)) q.2 (filt q.1) L:=by
 have kv:∀ c ∈ k ++ [61,34],isV c = true:=fun c m => by
  rcases List.mem_append.mp m with m | m
  ·obtain ⟨_,a,b,d⟩:=tk_iff.mp (hk c m); exact v_iff.mpr ⟨d,a,b⟩
  ·rcases List.mem_cons.mp m with rfl | m
   ·decide +kernel
   ·rw [List.mem_singleton.mp m]; decide +kernel
 have e0:∀ Y:List Nat,k ++ 61 :: 34 :: Y = (k ++ [61,34]) ++ Y:=fun Y => by rw [List.append_assoc]; rfl
 unfold mach at r
 rw [e0,List.foldl_append,fold_keep _ _ _ _ kv,List.nil_append] at r
 have no61:∀ c ∈ wr ps ++ [34],c ≠ 61:=fun c m => by
  rcases List.mem_append.mp m with m | m
  ·obtain ⟨p,mp,mc⟩:=List.mem_flatMap.mp m
   unfold wr1 at mc
   split at mc
   ·rcases List.mem_cons.mp mc with rfl | mc
    ·decide
    ·rw [List.mem_singleton.mp mc]; exact h61 p mp
   ·rw [List.mem_singleton.mp mc]; exact h61 p mp
  ·rw [List.mem_singleton.mp m]; decide
 obtain ⟨v,x,e1,e2⟩:=val_bad ps ok hb
 have e3:wr ps ++ 34 :: rest = [] ++ ((wr ps ++ [34]) ++ rest):=by rw [List.append_assoc]; rfl
 rw [e3]
 refine mach_first hk k0 hT hE hV (wr ps ++ [34]) [] no61 no_mem ?_ r
 rw [<- e3,e1,List.append_assoc]
 exact s_quo_bad (w1:=[]) (w2:=[]) rfl no_mem no_mem e2
noncomputable abbrev Wd:=List Nat × Nat × List Pc
noncomputable def gOk (g:List Nat):Prop:=g = [59] \/ g = [10] \/ g = [44,13] \/ g = [32]
noncomputable def wOk (w:Wd):Prop:=(w.2.1 = 112 \/ w.2.1 = 113 \/ w.2.1 = 114) /\ w.2.2.length <= 4 /\ ∀ p ∈ w.2.2,pcOk p /\ p.2 ≠ 61
noncomputable def gS (n:Nat) (g:List Nat):List Nat:=if n = 0 then g else if g = [10] then [13,10] else if g = [44,13] then [44,13,10] else g
noncomputable def dt (n:Nat) (g:List Nat):Nat:=if g = [] \/ g = [10] \/ g = [44,13] then n else 0
noncomputable def kW (n:Nat) (w:Wd):List Nat:=List.replicate (dt n w.1) 46 ++ [46,w.2.1]
noncomputable def TX (n:Nat):List Wd -> List Nat
 | [] => []
 | w :: r => gS n w.1 ++ (kW n w ++ 61 :: 34 :: (qs n (wr w.2.2) ++ 34 :: TX n r))
noncomputable def rdW (n:Nat) (q:List (List PV) × List PV) (w:Wd):List (List PV) × List PV:=
 if (n == 0 && brk w.2.2) = true then mach [46,w.2.1] (if w.1.contains 44 = true then (q.1 ++ [q.2],[]) else q) ([46,w.2.1] ++ 61 :: 34 :: (wr w.2.2 ++ [34]))
 else ((if w.1.contains 44 = true then (q.1 ++ [q.2],[]) else q).1,(if w.1.contains 44 = true then (q.1 ++ [q.2],[]) else q).2 ++ [(kW n w,some (lvF n false [] w.2.2))])
noncomputable def rdL (n:Nat) (ws:List Wd):List (List PV):=filt ((ws.foldl (rdW n) ([],[])).1 ++ [(ws.foldl (rdW n) ([],[])).2])
theorem key_tk {w:Wd} (h:wOk w):∀ c ∈ [46,w.2.1],isTk c = true:=fun c m => by
 rcases List.mem_cons.mp m with rfl | m
 ·decide +kernel
 ·rw [List.mem_singleton.mp m]; rcases h.1 with e | e | e <;> rw [e] <;> decide +kernel
theorem kW_tk {n:Nat} {w:Wd} (h:wOk w):∀ c ∈ kW n w,isTk c = true:=fun c m => by
 rcases List.mem_append.mp m with m | m
 ·rw [(List.mem_replicate.mp m).2]; decide +kernel
 ·exact key_tk h c m
theorem kW_ne {n:Nat} {w:Wd}:kW n w ≠ []:=fun e => List.cons_ne_nil _ _ (List.append_eq_nil_iff.mp e).2
theorem kW_hd {n:Nat} {w:Wd} (Y:List Nat):∃ Z,kW n w ++ Y = 46 :: Z:=by
 unfold kW
 cases dt n w.1 with
 | zero => exact ⟨_,rfl⟩
 | succ d => exact ⟨_,by rw [List.replicate_succ]; rfl⟩
theorem gS_cases {P:List Nat -> Prop} {n:Nat} {g:List Nat} (h:gOk g) (h1:P [59]) (h2:P [10]) (h3:P [13,10]) (h4:P [44,13]) (h5:P [44,13,10]) (h6:P [32]):P (gS n g):=by
 unfold gS
 by_cases hn:n = 0
 ·rw [if_pos hn]; rcases h with rfl | rfl | rfl | rfl
  ·exact h1
  ·exact h2
  ·exact h4
  ·exact h6
 ·rw [if_neg hn]; rcases h with rfl | rfl | rfl | rfl
  ·exact h1
  ·exact h3
  ·exact h5
  ·exact h6
theorem tail_ok {n:Nat}:∀ r:List Wd,(∀ w ∈ r,gOk w.1) -> NH isTk (TX n r) /\ NH isV (TX n r) /\ NE (TX n r):=by
 intro r
 cases r with
 | nil => intro _; exact ⟨.nil,.nil,.nil⟩
 | cons w r =>
  intro h
  show NH isTk (gS n w.1 ++ _) /\ NH isV (gS n w.1 ++ _) /\ NE (gS n w.1 ++ _)
  obtain ⟨Z,e⟩:=kW_hd (n:=n) (w:=w) (61 :: 34 :: (qs n (wr w.2.2) ++ 34 :: TX n r))
  rw [e]
  have hE:NE (46 :: Z):=by
   unfold NE
   rw [List.dropWhile_cons,if_neg (by decide +kernel)]
   exact .cons rfl
  have s10:isTk 10 = false /\ isV 10 = false:=by decide +kernel
  have s13:isTk 13 = false /\ isV 13 = false:=by decide +kernel
  have s32:isTk 32 = false /\ isV 32 = false:=by decide +kernel
  refine gS_cases (P:=fun g => NH isTk (g ++ 46 :: Z) /\ NH isV (g ++ 46 :: Z) /\ NE (g ++ 46 :: Z)) (h w List.mem_cons_self) ⟨.cons isTk59,.cons isV59,hE.app _ (by decide)⟩ ⟨.cons s10.1,.cons s10.2,hE.app _ (by decide)⟩ ⟨.cons s13.1,.cons s13.2,hE.app _ (by decide)⟩ ⟨.cons isTk44,.cons isV44,hE.app _ (by decide)⟩ ⟨.cons isTk44,.cons isV44,hE.app _ (by decide)⟩ ⟨.cons s32.1,.cons s32.2,hE.app _ (by decide)⟩
theorem word_reads {n:Nat} {w:Wd} {r:List Wd} {q q1:List (List PV) × List PV} {L:List (List PV)} (hw:wOk w) (hr:∀ w ∈ r,gOk w.1) (e1:q1 = if w.1.contains 44 = true then (q.1 ++ [q.2],[]) else q) (rd:Reads' (TX n r) (rdW n q w).2 (filt (rdW n q w).1) L) :
  Reads' (kW n w ++ 61 :: 34 :: (qs n (wr w.2.2) ++ 34 :: TX n r)) q1.2 (filt q1.1) L:=by
 have ok:∀ p ∈ w.2.2,pcOk p:=fun p m => (hw.2.2 p m).1
 unfold rdW at rd
 rw [<- e1] at rd
 cases hb:(n == 0 && brk w.2.2) with
 | true =>
  rw [hb,if_pos rfl] at rd
  obtain ⟨h1,h2⟩:=Bool.and_eq_true_iff.mp hb
  obtain rfl:n = 0:=eq_of_beq h1
  obtain ⟨t1,t2,t3⟩:=tail_ok (n:=0) r hr
  have ek:kW 0 w = [46,w.2.1]:=by
   unfold kW dt; split <;> rfl
  rw [ek]
  exact bad_reads (key_tk hw) (List.cons_ne_nil _ _) t1 t3 t2 ok (fun p m => (hw.2.2 p m).2) (brk_mem.mp h2) rd
 | false =>
  rw [hb,if_neg Bool.false_ne_true] at rd
  obtain ⟨g1,g2⟩:=val_good ok hb
  exact .quo (w:=[]) (nm:=kW n w) (w1:=[]) (w2:=[]) rfl no_mem (kW_tk hw) kW_ne no_mem no_mem g2 (by rw [g1]; exact rd)
theorem TX_reads {n:Nat}:∀ (ws:List Wd) (q:List (List PV) × List PV),(∀ w ∈ ws,wOk w /\ gOk w.1) -> Reads' (TX n ws) q.2 (filt q.1) (filt ((ws.foldl (rdW n) q).1 ++ [(ws.foldl (rdW n) q).2])):=by
 intro ws
 induction ws with
 | nil => intro q _; rw [<- put_filt]; exact .done
 | cons w r ih =>
  intro q h
  obtain ⟨hw,hg⟩:=h w List.mem_cons_self
  have hr:∀ w ∈ r,gOk w.1:=fun z m => (h z (List.mem_cons_of_mem _ m)).2
  have rd:=ih (rdW n q w) fun z m => h z (List.mem_cons_of_mem _ m)
  rw [List.foldl_cons]
  show Reads' (gS n w.1 ++ (kW n w ++ 61 :: 34 :: (qs n (wr w.2.2) ++ 34 :: TX n r))) _ _ _
  have one:=fun q1 e1 => word_reads (q1:=q1) hw hr e1 rd
  have sp:∀ l:List Nat,l = [10] \/ l = [13] \/ l = [13,10] \/ l = [32] -> ∀ c ∈ l,isSp c = true:=by
   rintro l (rfl | rfl | rfl | rfl) <;> decide +kernel
  unfold gS
  rcases hg with hg | hg | hg | hg
  ·have e:(if n = 0 then w.1 else if w.1 = [10] then [13,10] else if w.1 = [44,13] then [44,13,10] else w.1) = [59]:=by rw [hg]; split <;> rfl
   rw [e]
   exact Reads'.semi (one q (by rw [hg]; rfl))
  ·have o:=one q (by rw [hg]; rfl)
   by_cases hn:n = 0
   ·rw [if_pos hn,hg]; exact Reads'.ws (sp _ (.inl rfl)) o
   ·rw [if_neg hn,if_pos hg]; exact Reads'.ws (sp _ (.inr (.inr (.inl rfl)))) o
  ·have o:=one (q.1 ++ [q.2],[]) (by rw [hg]; rfl)
   by_cases hn:n = 0
   ·rw [if_pos hn,hg]
    refine .comma (w:=[]) rfl no_mem ?_
    rw [put_filt]; exact Reads'.ws (w:=[13]) (sp _ (.inr (.inl rfl))) o
   ·rw [if_neg hn,if_neg (by rw [hg]; decide),if_pos hg]
    refine .comma (w:=[]) rfl no_mem ?_
    rw [put_filt]; exact Reads'.ws (w:=[13,10]) (sp _ (.inr (.inr (.inl rfl)))) o
  ·have e:(if n = 0 then w.1 else if w.1 = [10] then [13,10] else if w.1 = [44,13] then [44,13,10] else w.1) = [32]:=by rw [hg]; split <;> rfl
   rw [e]
   exact Reads'.ws (sp _ (.inr (.inr (.inr rfl)))) (one q (by rw [hg]; rfl))
theorem all_reads {n:Nat} {w:Wd} {r:List Wd} (hw:wOk w) (h0:w.1 = []) (h:∀ w ∈ r,wOk w /\ gOk w.1):Reads' (TX n (w :: r)) [] [] (rdL n (w :: r)):=by
 have rd:=TX_reads (n:=n) r (rdW n ([],[]) w) h
 have one:=word_reads (q:=([],[])) (q1:=([],[])) hw (fun z m => (h z m).2) (by rw [h0]; rfl) rd
 have e:gS n w.1 = []:=by unfold gS; rw [h0]; split <;> rfl
 show Reads' (gS n w.1 ++ _) [] [] _
 rw [e]
 exact one
theorem sq_t46 (X:List Nat):sq true (46 :: X) = 46 :: sq false (46 :: X):=by
 unfold sq; rw [eolL_keep _ (by decide),dotL_dot,dotL_keep _ (.inr rfl)]; rfl
theorem sq_lf (X:List Nat):sq false (10 :: X) = 13 :: 10 :: sq true X:=by
 unfold sq; rw [eolL_lf,dotL_keep _ (.inr rfl),dotL_keep _ (.inl (by decide))]; rfl
theorem sq_crlf (X:List Nat):sq false (13 :: 10 :: X) = 13 :: 10 :: sq true X:=by
 unfold sq; rw [eolL_crlf,dotL_keep _ (.inr rfl),dotL_keep _ (.inl (by decide))]; rfl
theorem sq_cr (X:List Nat):sq false (13 :: 46 :: X) = 13 :: 10 :: sq true (46 :: X):=by
 unfold sq; rw [eolL_cr _ (.cons rfl),dotL_keep _ (.inr rfl),dotL_keep _ (.inl (by decide))]; rfl
theorem sq_44 (X:List Nat):sq false (44 :: X) = 44 :: sq false X:=sq_cons _ (by decide)
theorem sq_kW {d:Nat} {ch:Nat} (h:∀ c ∈ [46,ch],isTk c = true) (Y:List Nat):sq true (List.replicate d 46 ++ [46,ch] ++ Y) = List.replicate (d + 1) 46 ++ [46,ch] ++ sq false Y:=by
 have hk:∀ c ∈ List.replicate d 46 ++ [46,ch],isTk c = true:=fun c m => (List.mem_append.mp m).elim (fun m => by rw [(List.mem_replicate.mp m).2]; decide +kernel) (h c)
 have e:∃ Z,List.replicate d 46 ++ [46,ch] ++ Y = 46 :: Z:=by
  cases d with
  | zero => exact ⟨_,rfl⟩
  | succ d => exact ⟨_,by rw [List.replicate_succ]; rfl⟩
 obtain ⟨Z,e⟩:=e
 rw [e,sq_t46,<- e,sq_key _ hk,List.replicate_succ]; rfl
theorem sq_body (n:Nat) (W X:List Nat):sq false (61 :: 34 :: (qs n W ++ 34 :: X)) = 61 :: 34 :: (qs (n + 1) W ++ 34 :: sq false X):=by
 rw [sq_cons _ (by decide),sq_cons _ (by decide),sq_sep _ _ (by decide)]; rfl
theorem TX_tail (n:Nat):∀ r:List Wd,(∀ w ∈ r,wOk w /\ gOk w.1) -> sq false (TX n r) = TX (n + 1) r:=by
 intro r
 induction r with
 | nil => intro _; exact sq_nil false
 | cons w r ih =>
  intro h
  obtain ⟨hw,hg⟩:=h w List.mem_cons_self
  have hk:=key_tk hw
  have hb:sq false (61 :: 34 :: (qs n (wr w.2.2) ++ 34 :: TX n r)) = 61 :: 34 :: (qs (n + 1) (wr w.2.2) ++ 34 :: TX (n + 1) r):=by
   rw [sq_body,ih fun z m => h z (List.mem_cons_of_mem _ m)]
  show sq false (gS n w.1 ++ (kW n w ++ 61 :: 34 :: (qs n (wr w.2.2) ++ 34 :: TX n r))) = gS (n + 1) w.1 ++ (kW (n + 1) w ++ 61 :: 34 :: (qs (n + 1) (wr w.2.2) ++ 34 :: TX (n + 1) r))
  rw [<- hb]
  generalize 61 :: 34 :: (qs n (wr w.2.2) ++ 34 :: TX n r) = Y
  have d0:(¬ (w.1 = [] \/ w.1 = [10] \/ w.1 = [44,13])) -> ∀ m,dt m w.1 = 0:=fun q m => if_neg q
  have d1:(w.1 = [] \/ w.1 = [10] \/ w.1 = [44,13]) -> ∀ m,dt m w.1 = m:=fun q m => if_pos q
  unfold kW
  rcases hg with hg | hg | hg | hg
  ·have e:∀ m,gS m w.1 = [59]:=fun m => by unfold gS; rw [hg]; split <;> rfl
   rw [e,e,d0 (by rw [hg]; decide),d0 (by rw [hg]; decide)]
   show sq false (59 :: ([46,w.2.1] ++ Y)) = 59 :: ([46,w.2.1] ++ sq false Y)
   rw [sq_cons _ (by decide),sq_key _ hk]
  ·have e:gS (n + 1) w.1 = [13,10]:=by unfold gS; rw [hg]; rfl
   rw [e,d1 (.inr (.inl hg)),d1 (.inr (.inl hg)),<- sq_kW hk]
   unfold gS
   by_cases hn:n = 0
   ·rw [if_pos hn,hg]; exact sq_lf _
   ·rw [if_neg hn,if_pos hg]; exact sq_crlf _
  ·have e:gS (n + 1) w.1 = [44,13,10]:=by unfold gS; rw [hg]; rfl
   rw [e,d1 (.inr (.inr hg)),d1 (.inr (.inr hg)),<- sq_kW hk]
   unfold gS
   by_cases hn:n = 0
   ·subst hn; rw [if_pos rfl,hg]; exact (sq_44 _).trans (congrArg _ (sq_cr _))
   ·rw [if_neg hn,if_neg (by rw [hg]; decide),if_pos hg]; exact (sq_44 _).trans (congrArg _ (sq_crlf _))
  ·have e:∀ m,gS m w.1 = [32]:=fun m => by unfold gS; rw [hg]; split <;> rfl
   rw [e,e,d0 (by rw [hg]; decide),d0 (by rw [hg]; decide)]
   show sq false (32 :: ([46,w.2.1] ++ Y)) = 32 :: ([46,w.2.1] ++ sq false Y)
   rw [sq_cons _ (by decide),sq_key _ hk]
theorem TX_sent (n:Nat) {w:Wd} {r:List Wd} (hw:wOk w) (h0:w.1 = []) (h:∀ w ∈ r,wOk w /\ gOk w.1):sq true (TX n (w :: r)) = TX (n + 1) (w :: r):=by
 show sq true (gS n w.1 ++ (kW n w ++ 61 :: 34 :: (qs n (wr w.2.2) ++ 34 :: TX n r))) = gS (n + 1) w.1 ++ (kW (n + 1) w ++ 61 :: 34 :: (qs (n + 1) (wr w.2.2) ++ 34 :: TX (n + 1) r))
 have e:∀ n,gS n w.1 = []:=fun n => by unfold gS; rw [h0]; split <;> rfl
 have e2:∀ n,dt n w.1 = n:=fun n => by unfold dt; rw [h0]; exact if_pos (.inl rfl)
 unfold kW
 rw [e,e,e2,e2,<- TX_tail n r h,<- sq_body]
 exact sq_kW (key_tk hw) _
theorem wr_len (ps:List Pc):(wr ps).length <= 2 * ps.length:=by
 induction ps with
 | nil => exact Nat.le_refl _
 | cons p r ih =>
  have h1:(wr1 p).length <= 2:=by unfold wr1; split <;> simp
  rw [wr_cons,List.length_append,List.length_cons,Nat.mul_succ,Nat.add_comm]
  exact Nat.add_le_add ih h1
theorem TX_len {n:Nat} (hn:n <= 3):∀ ws:List Wd,(∀ w ∈ ws,w.2.2.length <= 4 /\ w.1.length <= 2) -> (TX n ws).length <= 52 * ws.length:=by
 intro ws
 induction ws with
 | nil => intro _; exact Nat.le_refl _
 | cons w r ih =>
  intro h
  have hr:=ih fun z m => h z (List.mem_cons_of_mem _ m)
  obtain ⟨h1,h2⟩:=h w List.mem_cons_self
  have l1:(gS n w.1).length <= 3:=by
   unfold gS
   split
   ·exact Nat.le_trans h2 (by decide)
   ·split
    ·decide
    ·split
     ·decide
     ·exact Nat.le_trans h2 (by decide)
  have l2:(kW n w).length <= 5:=by
   unfold kW dt
   rw [List.length_append,List.length_replicate]
   refine Nat.add_le_add (Nat.le_trans (m:=n) ?_ hn) (Nat.le_refl 2)
   split
   ·exact Nat.le_refl _
   ·exact Nat.zero_le _
  have l3:(qs n (wr w.2.2)).length <= 5 * 8:=Nat.le_trans (qs_len _ n) (Nat.mul_le_mul (Nat.add_le_add_right hn 2) (Nat.le_trans (wr_len _) (Nat.mul_le_mul_left 2 h1)))
  show (gS n w.1 ++ (kW n w ++ 61 :: 34 :: (qs n (wr w.2.2) ++ 34 :: TX n r))).length <= 52 * (r.length + 1)
  simp only [List.length_append,List.length_cons]
  lia
section
variable {F:Str -> List RV -> Option PyData} {i:Nat} {e c:E} {r a b:Bk} {σ σ':List Sl} {d:PyData}
theorem e_skip (h:evE F c (rvs σ) = some d) (ht:truth d = false):evS F (.ite c a .nil r) σ = evS F r σ:=e_ite_f h ht rfl
theorem ret_run {b:Bk} {σ σ':List Sl} {d:PyData} (h:evS F b σ = some (some d,σ')):(evS F b σ).bind (·.1) = some d:=by rw [h]; rfl
theorem x_call1 {f:Str} {e:E} {ρ:List RV} {x:PyData} (h:evE F e ρ = some x):evE F (.call f (.cons e .nil)) ρ = F f [.d x]:=by
 show (evL F (.cons e .nil) ρ).bind _ = _
 rw [x_l1 h]; rfl
theorem x_call2 {f:Str} {a b:E} {ρ:List RV} {x y:PyData} (h1:evE F a ρ = some x) (h2:evE F b ρ = some y):evE F (.call f (.cons a (.cons b .nil))) ρ = F f [.d x,.d y]:=by
 show (evL F _ ρ).bind _ = _
 rw [x_l2 h1 h2]; rfl
theorem x_ite {c a b:E} {ρ:List RV} {d z:PyData} (h:evE F c ρ = some d) (h2:(if truth d = true then evE F a ρ else evE F b ρ) = some z):evE F (.ite c a b) ρ = some z:=by
 show ((evE F c ρ).bind fun t => if truth t = true then evE F a ρ else evE F b ρ) = _
 rw [h]; exact h2
theorem x_rlen {e:E} {ρ:List RV} {xs:List PyData} (h:evE F e ρ = some (.list xs)) (hl:xs.length <= 1000):evE F (.rng (.len e)) ρ = some (.list ((List.range xs.length).map fun k:Nat => .int (0 + (k:Int)))):=by
 show (((evE F e ρ).bind lenD).bind fun x => rngP (.int 0) x) = _
 rw [h]
 show (rngD 0 (xs.length:Int)).map PyData.list = _
 unfold rngD
 rw [if_pos ⟨by decide,by decide,by (simp +arith),by lia⟩,Int.sub_zero,Int.toNat_natCast]; rfl
theorem x_not {a:E} {ρ:List RV} {x:PyData} (h:evE F a ρ = some x):evE F (.not_ a) ρ = some (.bool (!truth x)):=by
 show ((evE F a ρ).bind fun x => some (PyData.bool (!truth x))) = _
 rw [h]; rfl
theorem x_slc {a lo hi:E} {ρ:List RV} {x z:PyData} {l h:Option Int} (h1:evE F a ρ = some x) (h2:(evE F lo ρ).bind optI = some l) (h3:(evE F hi ρ).bind optI = some h) (h4:slcD x l h = some z):evE F (.slc a lo hi) ρ = some z:=by
 show ((evE F a ρ).bind fun x => ((evE F lo ρ).bind optI).bind fun l => ((evE F hi ρ).bind optI).bind fun h => slcD x l h) = _
 rw [h1,h2,h3]; exact h4
theorem evS_quote {l:List Nat} (h:l.length <= 5000):evS F b3_quotedata [.rv (.d (sx l))] = some (some (sx (sq true l)),[.rv (.d (sx l))]):=by
 have h2:=eolL_len l
 have e1:subSD .eol (sx [13,10]) (sx l) = some (sx (eolL l)):=by
  show (if (tl (mkS l)).length <= 10000 then (subD .eol [13,10] l).map sx else none) = _
  rw [if_pos (show l.length <= 10000 by lia)]; rfl
 have e2:subSD .dot (sx [46,46]) (sx (eolL l)) = some (sx (dotL true (eolL l))):=by
  show (if (tl (mkS (eolL l))).length <= 10000 then (subD .dot [46,46] (eolL l)).map sx else none) = _
  rw [if_pos (show (eolL l).length <= 10000 by lia)]; rfl
 refine e_ret ?_
 show ((some (sx [46,46])).bind fun y => (Option.bind (subSD .eol (sx [13,10]) (sx l)) fun x => subSD .dot y x)) = _
 rw [e1]; exact e2
end
theorem idx_nat {α:Type} {en:α -> PyData} {l:List α} {k:Nat} {a:α} (h:l[k]? = some a):idxD (.list (l.map en)) (.int (0 + (k:Int))) = some (en a):=by
 have hk:k < (l.map en).length:=by rw [List.length_map]; exact (List.getElem?_eq_some_iff.mp h).1
 show (nIx (0 + (k:Int)) (l.map en).length).bind (fun k => (l.map en)[k]?) = _
 unfold nIx
 rw [Int.zero_add,if_pos (Int.natCast_nonneg k),if_pos (Int.ofNat_lt.mpr hk),Option.bind_some,Int.toNat_natCast,List.getElem?_map,h]; rfl
theorem add_list {xs ys:List PyData} (h:xs.length + ys.length <= big):binD .Add (.list xs) (.list ys) = some (.list (xs ++ ys)):=if_pos h
theorem x_comp2 {F:Str -> List RV -> Option PyData} {α:Type} {it e:E} {ρ:List RV} {d0:PyData} {zs:List α} {en a b g:α -> PyData} (h:evE F it ρ = some d0) (hi:itemsD d0 = some (zs.map en)) (hen:∀ z,en z = .tuple [a z,b z]) (he:∀ z ∈ zs,evE F e (.d (a z) :: .d (b z) :: ρ) = some (g z)) :
  evE F (.comp 2 it (.bool true) e) ρ = some (.list (zs.map g)):=by
 show (((evE F it ρ).bind itemsD).bind _) = _
 rw [h]
 show ((itemsD d0).bind _) = _
 rw [hi]
 show (compD _ (zs.map en)).map PyData.list = _
 rw [compD_map (g:=g) fun z m => ?_]; rfl
 rw [hen]
 show (if truth (.bool true) = true then (evE F e (.d (a z) :: .d (b z) :: ρ)).map some else some none) = _
 rw [if_pos (show truth (.bool true) = true from rfl),he z m]; rfl
theorem run_q (k:Nat) (x:PyData):runFn fns2 (k + 1) "quotedata" [.d x] = ((evS (runFn fns2 k) b3_quotedata [.rv (.d x)]).bind (·.1)):=by rfl
theorem quote2 (k:Nat) {l:List Nat} (h:l.length <= 5000):runFn fns2 (k + 1) "quotedata" [.d (sx l)] = some (sx (sq true l)):=(run_q k _).trans (ret_run (evS_quote h))
theorem run_unm (k:Nat) (x:RV):runFn fns2 (k + 1) "unmatched" [x] = ((evS (runFn fns2 k) b3_unmatched [.rv x,.rv .un,.rv .un]).bind (·.1)):=by rfl
theorem run_sp (k:Nat) (x:PyData):runFn fns2 (k + 1) "split_header_words" [.d x] = ((evS (runFn fns2 k) b3_split_header_words [.rv (.d x),.rv .un,.rv .un,.rv .un,.rv .un,.rv .un,.rv .un,.rv .un,.rv .un,.rv .un]).bind (·.1)):=by rfl
theorem run_j (k:Nat) (x:PyData):runFn fns2 (k + 1) "join_header_words" [.d x] = ((evS (runFn fns2 k) b3_join_header_words [.rv (.d x),.rv .un,.rv .un,.rv .un,.rv .un,.rv .un]).bind (·.1)):=by rfl
theorem unm2 (k:Nat):UnmOk (runFn fns2 (k + 1)):=fun x hd gr h1 h2 => by
 obtain ⟨σ,h⟩:=evS_unmatched (F:=runFn fns2 k) (gr:=gr) h1 h2
 rw [run_unm,h]; rfl
theorem split2 (k:Nat) {t:List Nat} {L:List (List PV)} (rd:Reads' t [] [] L) (ht:t.length <= 10000):runFn fns2 (k + 2) "split_header_words" [.d (.list [sx t])] = some (.list (L.map listD)):=by
 obtain ⟨σ,h⟩:=evS_split (unm2 k) rd ht
 rw [run_sp,h]; rfl
theorem pair_len (p:PV):(joinPair p).length + 9 <= muP p:=by
 obtain ⟨k,v⟩:=p
 cases v with
 | none => show k.length + 9 <= k.length + 0 + 12; (simp +arith)
 | some v =>
  have:=joinV_len v
  show (k ++ 61 :: joinV v).length + 9 <= k.length + 2 * v.length + 12
  rw [List.length_append,List.length_cons]; lia
theorem row_len:∀ row:List PV,row ≠ [] -> (joinRow row).length + 5 <= mu row /\ row.length <= mu row /\ ∀ p ∈ row,muP p <= mu row:=by
 intro row
 induction row with
 | nil => intro h; exact (h rfl).elim
 | cons p row ih =>
  intro _
  have h1:=pair_len p
  have em:mu (p :: row) = muP p + mu row:=rfl
  cases row with
  | nil =>
   have:mu ([]:List PV) = 0:=rfl
   refine ⟨by show (joinPair p).length + 5 <= _; lia,by show 1 <= _; (exact Nat.le_add_left _ _),fun q m => by rw [List.mem_singleton.mp m]; (exact Nat.le_refl _)⟩
  | cons q row =>
   obtain ⟨h2,h3,h4⟩:=ih (List.cons_ne_nil _ _)
   refine ⟨?_,?_,fun z m => ?_⟩
   ·show (joinPair p ++ [59,32] ++ joinRow (q :: row)).length + 5 <= _
    rw [List.length_append,List.length_append]; show _ + 2 + _ + 5 <= _; lia
   ·rw [List.length_cons]; lia
   ·rcases List.mem_cons.mp m with rfl | m
    ·(exact Nat.le_add_right _ _)
    ·have:=h4 z m; lia
theorem all_len:∀ L:List (List PV),(∀ row ∈ L,rOk row) -> (joinAll L).length <= muL L /\ L.length <= muL L /\ ∀ row ∈ L,mu row <= muL L:=by
 intro L
 induction L with
 | nil => intro _; exact ⟨Nat.le_refl _,Nat.le_refl _,no_mem⟩
 | cons row L ih =>
  intro h
  obtain ⟨h1,h2,_⟩:=row_len row (h row List.mem_cons_self).1
  obtain ⟨h3,h4,h5⟩:=ih fun z m => h z (List.mem_cons_of_mem _ m)
  have em:muL (row :: L) = mu row + muL L:=rfl
  refine ⟨?_,by rw [List.length_cons]; lia,fun z m => ?_⟩
  ·cases L with
   | nil => show (joinRow row).length <= _; lia
   | cons q L =>
    show (joinRow row ++ [44,32] ++ joinAll (q :: L)).length <= _
    rw [List.length_append,List.length_append]; show _ + 2 + _ <= _; lia
  ·rcases List.mem_cons.mp m with rfl | m
   ·(exact Nat.le_add_right _ _)
   ·have:=h5 z m; lia
theorem join2 (k:Nat) {L:List (List PV)} (h:∀ row ∈ L,rOk row) (hm:muL L <= 5000):runFn fns2 (k + 1) "join_header_words" [.d (.list (L.map listD))] = some (sx (joinAll L)):=by
 have hbig:big = 1000000:=rfl
 obtain ⟨h1,h2,h3⟩:=all_len L h
 have ok:∀ ps ∈ L,rowOk ps:=fun ps m => by
  obtain ⟨r1,r2,r3⟩:=row_len ps (h ps m).1
  have:=h3 ps m
  refine ⟨(h ps m).1,by lia,fun p mp => ?_,by lia⟩
  have hp:=r3 p mp
  obtain ⟨key,v⟩:=p
  refine ⟨?_,fun v' e => ?_⟩
  ·have:key.length <= muP (key,v):=by unfold muP; exact Nat.le_trans (Nat.le_add_right _ _) (Nat.le_add_right _ _)
   show key.length <= 10000; lia
  ·obtain rfl:v = some v':=e
   have:muP (key,some v') = key.length + 2 * v'.length + 12:=rfl
   lia
 obtain ⟨σ,e⟩:=evS_join (F:=runFn fns2 k) ok (by lia) (by lia)
 rw [run_j,e]; rfl
noncomputable def pcD (p:Pc):PyData:=.tuple [.bool p.1,sx [p.2]]
noncomputable def pcsD (ps:List Pc):PyData:=.list (ps.map pcD)
noncomputable def sgL (x:Int):List Nat:=[46,10,13,34,92,32,59,44,97,(256 + (x.fdiv 20).fmod 4096).toNat]
noncomputable def sgn (x:Int):Nat:=(sgL x).getD (x.fmod 10).toNat 0
noncomputable def pcOf (x:Int):Pc:=([sgn x] == [34] || ([sgn x] == [92] || ((x.fdiv 10).fmod 2 == 1)),sgn x)
section
variable {F:Str -> List RV -> Option PyData}
theorem fmod_nat (x:Int) {m:Nat} (h:0 < m):∃ j:Nat,x.fmod (m:Int) = (j:Int) /\ j < m:=by
 have hm:(0:Int) < (m:Int):=Int.natCast_pos.mpr h
 obtain ⟨j,e⟩:=Int.eq_ofNat_of_zero_le (Int.fmod_nonneg_of_pos x hm)
 exact ⟨j,e,Int.ofNat_lt.mp (by rw [<- e]; exact Int.fmod_lt_of_pos x hm)⟩
theorem idx_tup {α:Type} {en:α -> PyData} {l:List α} {k:Nat} {a:α} (h:l[k]? = some a):idxD (.tuple (l.map en)) (.int (k:Int)) = some (en a):=by
 have hk:k < (l.map en).length:=by rw [List.length_map]; exact (List.getElem?_eq_some_iff.mp h).1
 show (nIx (k:Int) (l.map en).length).bind (fun k => (l.map en)[k]?) = _
 unfold nIx
 rw [if_pos (Int.natCast_nonneg k),if_pos (Int.ofNat_lt.mpr hk),Option.bind_some,Int.toNat_natCast,List.getElem?_map,h]; rfl
theorem x_bor3 {a b c:E} {ρ:List RV} {p q r:Bool} (h1:evE F a ρ = some (.bool p)) (h2:evE F b ρ = some (.bool q)) (h3:evE F c ρ = some (.bool r)):evE F (.bor (.cons a (.cons b (.cons c .nil)))) ρ = some (.bool (p || (q || r))):=by
 cases p with
 | true => exact x_bor_t h1 rfl
 | false => cases q with
  | true => exact (x_bor_f h1 rfl).trans (x_bor_t h2 rfl)
  | false => exact (x_bor_f h1 rfl).trans ((x_bor_f h2 rfl).trans (x_bor_1 h3))
noncomputable def eSg:E:=(.cons (.str (mkS [46])) (.cons (.str (mkS [10])) (.cons (.str (mkS [13])) (.cons (.str (mkS [34])) (.cons (.str (mkS [92])) (.cons (.str (mkS [32])) (.cons (.str (mkS [59])) (.cons (.str (mkS [44])) (.cons (.str (mkS [97])) (.cons (.chr_ (.bin .Add (.int 256) (.bin .Mod (.bin .FloorDiv (.var 2) (.int 20)) (.int 4096)))) .nil))))))))))
theorem e_sign {ρ:List RV} {x:Int} (h:evE F (.var 2) ρ = some (.int x)):evE F (.idx (.tup eSg) (.bin .Mod (.var 2) (.int 10))) ρ = some (sx [sgn x]):=by
 obtain ⟨j,ej,hj⟩:=fmod_nat x (show 0 < 10 by decide)
 obtain ⟨m,em,hm⟩:=fmod_nat (x.fdiv 20) (show 0 < 4096 by decide)
 have hc:evE F (.chr_ (.bin .Add (.int 256) (.bin .Mod (.bin .FloorDiv (.var 2) (.int 20)) (.int 4096)))) ρ = some (sx [(256 + (x.fdiv 20).fmod 4096).toNat]):=by
  refine x_chr (x:=.int (256 + (x.fdiv 20).fmod 4096)) (x_bin (x:=.int 256) (y:=.int ((x.fdiv 20).fmod 4096)) rfl (x_bin (x:=.int (x.fdiv 20)) (y:=.int 4096) (x_bin (x:=.int x) (y:=.int 20) h rfl (div_pos _ _ (by decide))) rfl (mod_pos _ _ (by decide))) rfl) (if_pos ?_)
  have em':(x.fdiv 20).fmod 4096 = (m:Int):=em
  rw [em']; (first | lia | omega)
 have ht:evE F (.tup eSg) ρ = some (.tuple ((sgL x).map fun c => sx [c])):=x_tup (x_lc rfl (x_lc rfl (x_lc rfl (x_lc rfl (x_lc rfl (x_lc rfl (x_lc rfl (x_lc rfl (x_lc rfl (x_l1 hc))))))))))
 refine x_idx (x:=.tuple ((sgL x).map fun c => sx [c])) (y:=.int (x.fmod 10)) ht (x_bin (x:=.int x) (y:=.int 10) h rfl (mod_pos _ _ (by decide))) ?_
 have ej':x.fmod 10 = (j:Int):=ej
 have hl:j < (sgL x).length:=hj
 unfold sgn
 rw [ej',Int.toNat_natCast,List.getD_eq_getElem?_getD,List.getElem?_eq_getElem hl]
 exact idx_tup (en:=fun c:Nat => sx [c]) (List.getElem?_eq_getElem hl)
noncomputable def bPc:Bk:=(.asg 3 (.idx (.tup eSg) (.bin .Mod (.var 2) (.int 10))) (.app 1 (.tup (.cons (.bor (.cons (.cmp .Eq (.var 3) (.str (mkS [34]))) (.cons (.cmp .Eq (.var 3) (.str (mkS [92]))) (.cons (.cmp .Eq (.bin .Mod (.bin .FloorDiv (.var 2) (.int 10)) (.int 2)) (.int 1)) .nil)))) (.cons (.var 3) .nil))) .nil))
noncomputable def oPc (l:List Pc):Sl:=.own (l.map fun p => .fz (pcD p))
theorem evS_pc {N X:Sl} {l:List Pc} {x:Int} (hl:l.length < big):evS F bPc [N,oPc l,.rv (.d (.int x)),X] = some (none,[N,oPc (l ++ [pcOf x]),.rv (.d (.int x)),.rv (.d (sx [sgn x]))]):=by
 refine (e_asg (e_sign rfl)).trans ?_
 refine (e_app (d:=pcD (pcOf x)) (l:=l.map fun p => .fz (pcD p)) ?_ rfl (by rw [List.length_map]; exact hl)).trans ?_
 ·refine x_tup (x_l2 (x_bor3 (x_cmp (x:=sx [sgn x]) (y:=sx [34]) rfl rfl (eq_str _ _)) (x_cmp (x:=sx [sgn x]) (y:=sx [92]) rfl rfl (eq_str _ _)) (x_cmp (x:=.int ((x.fdiv 10).fmod 2)) (y:=.int 1) ?_ rfl rfl)) rfl)
  exact x_bin (x:=.int (x.fdiv 10)) (y:=.int 2) (x_bin (x:=.int x) (y:=.int 10) rfl rfl (div_pos _ _ (by decide))) rfl (mod_pos _ _ (by decide))
 ·unfold oPc; rw [List.map_append]; rfl
theorem run_pc (k:Nat) (x:PyData):runFn fns2 (k + 1) "_law_pieces" [.d x] = ((evS (runFn fns2 k) b2__law_pieces [.rv (.d x),.rv .un,.rv .un,.rv .un]).bind (·.1)):=by rfl
noncomputable def pcStep (q:List Pc × Sl × Sl) (x:Int):List Pc × Sl × Sl:=(q.1 ++ [pcOf x],.rv (.d (.int x)),.rv (.d (sx [sgn x])))
theorem pcStep_fst:∀ (xs:List Int) (q:List Pc × Sl × Sl),(xs.foldl pcStep q).1 = q.1 ++ xs.map pcOf:=by
 intro xs
 induction xs with
 | nil => intro q; exact (List.append_nil _).symm
 | cons x xs ih => intro q; rw [List.foldl_cons,ih,List.map_cons]; exact List.append_assoc ..
theorem pieces2 (k:Nat) {xs:List Int} (hl:xs.length < big):runFn fns2 (k + 1) "_law_pieces" [.d (.list (xs.map .int))] = some (pcsD (xs.map pcOf)):=by
 refine (run_pc k _).trans ?_
 have hloop:=forD_acc (step:=fun x σ => (bindT 1 x).bind fun tg => evS (runFn fns2 k) bPc (setAll σ [2] tg)) (fun q:List Pc × Sl × Sl => [.rv (.d (.list (xs.map .int))),oPc q.1,q.2.1,q.2.2]) (fun x:Int => .int x) pcStep
  (fun q l => q.1.length + l.length < big) (fun q x r h => by
   rw [List.length_cons] at h
   refine ⟨evS_pc (by (first | lia | omega)),?_⟩
   show (q.1 ++ [pcOf x]).length + r.length < big
   rw [List.length_append]; show q.1.length + 1 + r.length < big; (first | lia | omega)) xs ([],.rv .un,.rv .un) (by show 0 + xs.length < big; (first | lia | omega))
 have hf:=pcStep_fst xs ([],.rv .un,.rv .un)
 rw [List.nil_append] at hf
 rw [hf] at hloop
 refine ret_run (σ':=[.rv (.d (.list (xs.map .int))),.rv (.d (pcsD (xs.map pcOf))),(xs.foldl pcStep ([],.rv .un,.rv .un)).2.1,(xs.foldl pcStep ([],.rv .un,.rv .un)).2.2]) ?_
 refine (e_for (is:=[2]) (b:=bPc) (r:=.frz 1 (.ret (.var 1))) (it:=.var 0) (d0:=.list (xs.map .int)) (xs:=xs.map .int) (σ:=[.rv (.d (.list (xs.map .int))),oPc [],.rv .un,.rv .un]) rfl rfl hloop).trans ?_
 have e1:frzSl (oPc (xs.map pcOf)) = .rv (.d (pcsD (xs.map pcOf))):=by
  show Sl.rv (.d (.list (((xs.map pcOf).map fun p => Itm.fz (pcD p)).map itmD))) = _
  rw [List.map_map]; rfl
 show evS (runFn fns2 k) (.ret (.var 1)) [.rv (.d (.list (xs.map .int))),frzSl (oPc (xs.map pcOf)),_,_] = _
 rw [e1]; rfl
theorem strsOf_of {α:Type} (g:α -> List Nat):∀ zs:List α,strsOf (zs.map fun z => sx (g z)) = some (zs.map g):=by
 intro zs
 induction zs with
 | nil => rfl
 | cons z zs ih => rw [List.map_cons,strsOf,ih]; rfl
theorem joinL_flat:∀ xs:List (List Nat),joinL [] xs = xs.flatten:=by
 intro xs
 induction xs with
 | nil => rfl
 | cons x xs ih =>
  cases xs with
  | nil => exact (List.append_nil _).symm
  | cons y r => show x ++ [] ++ joinL [] (y :: r) = _; rw [ih,List.append_nil]; rfl
theorem run_w (k:Nat) (x y:PyData):runFn fns2 (k + 1) "_law_written" [.d x,.d y] = ((evS (runFn fns2 k) b2__law_written [.rv (.d x),.rv (.d y)]).bind (·.1)):=by rfl
theorem written2 (k:Nat) {key:List Nat} {ps:List Pc} (hk:key.length <= 10) (hp:ps.length <= 10):runFn fns2 (k + 1) "_law_written" [.d (sx key),.d (pcsD ps)] = some (sx (key ++ 61 :: 34 :: (wr ps ++ [34]))):=by
 have hbig:big = 1000000:=rfl
 have hw:=wr_len ps
 refine (run_w k _ _).trans (ret_run (σ':=[.rv (.d (sx key)),.rv (.d (pcsD ps))]) (e_ret ?_))
 have hj:evE (runFn fns2 k) (.meth "join" (.str (mkS [])) (.cons (.comp 2 (.var 1) (.bool true) (.bin .Add (.ite (.var 0) (.str (mkS [92])) (.str (mkS []))) (.var 1))) .nil)) (rvs [.rv (.d (sx key)),.rv (.d (pcsD ps))]) = some (sx (wr ps)):=by
  refine x_meth (x:=sx []) (ys:=[.list (ps.map fun p => sx (wr1 p))]) rfl (x_l1 (x_comp2 (d0:=pcsD ps) (zs:=ps) (en:=pcD) (a:=fun p => .bool p.1) (b:=fun p => sx [p.2]) (g:=fun p => sx (wr1 p)) rfl rfl (fun _ => rfl) fun p _ => ?_)) ?_
  ·refine x_bin (x:=if p.1 = true then sx [92] else sx []) (y:=sx [p.2]) (x_ite (d:=.bool p.1) rfl ?_) rfl ?_
   ·show (if p.1 = true then some (sx [92]) else some (sx [])) = _
    cases p.1 <;> rfl
   ·unfold wr1
    cases p.1 <;> rfl
  ·have e:=meth_join (sep:=[]) (strsOf_of wr1 ps) (by rw [joinL_flat,<- List.flatMap_def]; show (wr ps).length <= big; (first | lia | omega))
   rw [joinL_flat,<- List.flatMap_def] at e
   exact e
 have e:key ++ 61 :: 34 :: (wr ps ++ [34]) = key ++ [61,34] ++ wr ps ++ [34]:=by simp
 rw [e]
 refine x_bin (x:=sx (key ++ [61,34] ++ wr ps)) (y:=sx [34]) (x_bin (x:=sx (key ++ [61,34])) (y:=sx (wr ps)) (x_bin (x:=sx key) (y:=sx [61,34]) rfl rfl (add_str ?_)) hj (add_str ?_)) rfl (add_str ?_)
 ·show key.length + 2 <= big; (first | lia | omega)
 ·rw [List.length_append]; show key.length + 2 + _ <= big; (first | lia | omega)
 ·rw [List.length_append,List.length_append]; show key.length + 2 + _ + 1 <= big; (first | lia | omega)
end
noncomputable def bEnd:Bk:=(.ite (.bor (.cons (.var 5) (.cons (.cmp .NotEq (.bin .Add (.var 3) (.var 6)) (.str (mkS [13,10]))) .nil))) (.aug 2 .Add (.str (mkS [13,10])) .nil) .nil (.asg 4 (.bool true) .nil))
noncomputable def eDots:E:=(.ite (.band (.cons (.var 4) (.cons (.cmp .Eq (.var 6) (.str (mkS [46]))) (.cons (.not_ (.var 5)) .nil)))) (.bin .Add (.bin .Mult (.str (mkS [46])) (.var 1)) (.var 6)) (.var 6))
noncomputable def bElse:Bk:=(.aug 2 .Add eDots (.asg 4 (.bool false) .nil))
noncomputable def bVal:Bk:=(.ite (.band (.cons (.cmp .In (.var 6) (.str (mkS [13,10]))) (.cons (.cmp .Gt (.var 1) (.int 0)) .nil))) bEnd bElse (.asg 3 (.var 6) .nil))
noncomputable def valS (P:Sl) (n:Nat) (v last:List Nat) (b:Bool) (x y:Sl):List Sl:=[P,.rv (.d (.int n)),.rv (.d (sx v)),.rv (.d (sx last)),.rv (.d (.bool b)),x,y]
theorem lvC_len {n:Nat} {b:Bool} {last:List Nat} {p:Pc}:(lvC n b last p).length <= n + 2:=by
 unfold lvC
 split
 ·split
  ·exact Nat.le_add_left 2 n
  ·exact Nat.zero_le _
 ·split
  ·rw [List.length_append,List.length_replicate]; exact Nat.add_le_add_left (by decide:1 <= 2) n
  ·exact Nat.le_trans (by decide:1 <= 2) (Nat.le_add_left 2 n)
section
variable {F:Str -> List RV -> Option PyData}
theorem x_band3 {a b c:E} {ρ:List RV} {p q r:Bool} (h1:evE F a ρ = some (.bool p)) (h2:evE F b ρ = some (.bool q)) (h3:evE F c ρ = some (.bool r)):evE F (.band (.cons a (.cons b (.cons c .nil)))) ρ = some (.bool (p && (q && r))):=by
 cases p with
 | false => exact x_band_f h1 rfl
 | true => cases q with
  | false => exact (x_band_t h1 rfl).trans (x_band_f h2 rfl)
  | true => exact (x_band_t h1 rfl).trans ((x_band_t h2 rfl).trans (x_band_1 h3))
theorem x_band2 {a b:E} {ρ:List RV} {p q:Bool} (h1:evE F a ρ = some (.bool p)) (h2:evE F b ρ = some (.bool q)):evE F (.band (.cons a (.cons b .nil))) ρ = some (.bool (p && q)):=by
 cases p with
 | false => exact x_band_f h1 rfl
 | true => exact (x_band_t h1 rfl).trans (x_band_1 h2)
theorem x_bor2 {a b:E} {ρ:List RV} {p q:Bool} (h1:evE F a ρ = some (.bool p)) (h2:evE F b ρ = some (.bool q)):evE F (.bor (.cons a (.cons b .nil))) ρ = some (.bool (p || q)):=by
 cases p with
 | true => exact x_bor_t h1 rfl
 | false => exact (x_bor_f h1 rfl).trans (x_bor_1 h2)
theorem contains_E (c:Nat):[13,10].contains c = decide (isE c):=by
 rw [Bool.eq_iff_iff,List.contains_iff_mem,decide_eq_true_iff]
 exact ⟨fun m => (List.mem_cons.mp m).imp id fun m => List.mem_singleton.mp m,fun h => h.elim (fun e => e ▸ List.mem_cons_self) fun e => e ▸ List.mem_cons_of_mem _ List.mem_cons_self⟩
theorem evS_val {P:Sl} {n:Nat} {v last:List Nat} {b:Bool} {p:Pc} (hn:n <= 100) (hv:v.length + (n + 2) <= big) (hl:last.length <= 1) :
  evS F bVal [P,.rv (.d (.int n)),.rv (.d (sx v)),.rv (.d (sx last)),.rv (.d (.bool b)),.rv (.d (.bool p.1)),.rv (.d (sx [p.2]))] = some (none,valS P n (v ++ lvC n b last p) [p.2] (lvB n p) (.rv (.d (.bool p.1))) (.rv (.d (sx [p.2])))):=by
 have hbig:big = 1000000:=rfl
 have hlen:=lvC_len (n:=n) (b:=b) (last:=last) (p:=p)
 obtain ⟨sh,c⟩:=p
 have hc:evE F (.band (.cons (.cmp .In (.var 6) (.str (mkS [13,10]))) (.cons (.cmp .Gt (.var 1) (.int 0)) .nil))) (rvs [P,.rv (.d (.int n)),.rv (.d (sx v)),.rv (.d (sx last)),.rv (.d (.bool b)),.rv (.d (.bool sh)),.rv (.d (sx [c]))]) = some (.bool (decide (isE c) && decide ((0:Int) < (n:Int)))):=
  x_band2 (x_cmp (x:=sx [c]) (y:=sx [13,10]) rfl rfl (by rw [<- contains_E]; rfl)) (x_cmp (x:=.int n) (y:=.int 0) rfl rfl rfl)
 have last_asg:∀ (w:List Nat) (b':Bool),evS F (.asg 3 (.var 6) .nil) [P,.rv (.d (.int n)),.rv (.d (sx w)),.rv (.d (sx last)),.rv (.d (.bool b')),.rv (.d (.bool sh)),.rv (.d (sx [c]))] = some (none,valS P n w [c] b' (.rv (.d (.bool sh))) (.rv (.d (sx [c])))):=fun _ _ => rfl
 unfold bVal
 by_cases h1:isE c /\ 0 < n
 ·have eb:lvB n (sh,c) = true:=decide_eq_true h1
  have ev:lvC n b last (sh,c) = if sh = true \/ last ++ [c] ≠ [13,10] then [13,10] else []:=if_pos h1
  rw [eb,ev]
  refine (e_ite_t (σ':=[P,.rv (.d (.int n)),.rv (.d (sx (v ++ if sh = true \/ last ++ [c] ≠ [13,10] then [13,10] else []))),.rv (.d (sx last)),.rv (.d (.bool true)),.rv (.d (.bool sh)),.rv (.d (sx [c]))]) hc ?_ ?_).trans (last_asg _ _)
  ·show (decide (isE c) && decide ((0:Int) < (n:Int))) = true
   rw [decide_eq_true h1.1,decide_eq_true (Int.natCast_pos.mpr h1.2)]; rfl
  ·unfold bEnd
   have hb:evE F (.bor (.cons (.var 5) (.cons (.cmp .NotEq (.bin .Add (.var 3) (.var 6)) (.str (mkS [13,10]))) .nil))) (rvs [P,.rv (.d (.int n)),.rv (.d (sx v)),.rv (.d (sx last)),.rv (.d (.bool b)),.rv (.d (.bool sh)),.rv (.d (sx [c]))]) = some (.bool (sh || !(last ++ [c] == [13,10]))):=
    x_bor2 rfl (x_cmp (x:=sx (last ++ [c])) (y:=sx [13,10]) (x_bin (x:=sx last) (y:=sx [c]) rfl rfl (add_str (by show last.length + 1 <= big; lia))) rfl (ne_str _ _))
   by_cases h2:sh = true \/ last ++ [c] ≠ [13,10]
   ·rw [if_pos h2]
    refine (e_ite_t (σ':=[P,.rv (.d (.int n)),.rv (.d (sx (v ++ [13,10]))),.rv (.d (sx last)),.rv (.d (.bool b)),.rv (.d (.bool sh)),.rv (.d (sx [c]))]) hb ?_ ?_).trans ((e_asg (d:=.bool true) rfl).trans rfl)
    ·show (sh || !(last ++ [c] == [13,10])) = true
     rcases h2 with h2 | h2
     ·rw [h2]; rfl
     ·rw [beq_false_of_ne h2,Bool.or_eq_true]; exact .inr rfl
    ·exact (e_aug (x:=sx v) (y:=sx [13,10]) (z:=sx (v ++ [13,10])) rfl rfl rfl (add_str (by show v.length + 2 <= big; lia))).trans rfl
   ·rw [if_neg h2,List.append_nil]
    refine (e_skip hb ?_).trans ((e_asg (d:=.bool true) rfl).trans rfl)
    show (sh || !(last ++ [c] == [13,10])) = false
    have e1:sh = false:=by cases sh with | false => rfl | true => exact (h2 (.inl rfl)).elim
    have e2:last ++ [c] = [13,10]:=Classical.byContradiction fun q => h2 (.inr q)
    rw [e1,e2]; rfl
 ·have eb:lvB n (sh,c) = false:=decide_eq_false h1
  have ev:lvC n b last (sh,c) = if b = true /\ c = 46 /\ sh = false then List.replicate n 46 ++ [46] else [c]:=if_neg h1
  rw [eb]
  refine (e_ite_f (σ':=[P,.rv (.d (.int n)),.rv (.d (sx (v ++ lvC n b last (sh,c)))),.rv (.d (sx last)),.rv (.d (.bool false)),.rv (.d (.bool sh)),.rv (.d (sx [c]))]) hc ?_ ?_).trans (last_asg _ _)
  ·show (decide (isE c) && decide ((0:Int) < (n:Int))) = false
   rw [Bool.and_eq_false_iff,decide_eq_false_iff_not,decide_eq_false_iff_not]
   by_cases h2:isE c
   ·exact .inr fun q => h1 ⟨h2,Int.natCast_pos.mp q⟩
   ·exact .inl h2
  ·unfold bElse eDots
   have hb:evE F (.band (.cons (.var 4) (.cons (.cmp .Eq (.var 6) (.str (mkS [46]))) (.cons (.not_ (.var 5)) .nil)))) (rvs [P,.rv (.d (.int n)),.rv (.d (sx v)),.rv (.d (sx last)),.rv (.d (.bool b)),.rv (.d (.bool sh)),.rv (.d (sx [c]))]) = some (.bool (b && (([c] == [46]) && !sh))):=
    x_band3 rfl (x_cmp (x:=sx [c]) (y:=sx [46]) rfl rfl (eq_str _ _)) (x_not (x:=.bool sh) rfl)
   refine (e_aug (x:=sx v) (y:=sx (lvC n b last (sh,c))) (z:=sx (v ++ lvC n b last (sh,c))) ?_ rfl rfl (add_str (by lia))).trans ((e_asg (d:=.bool false) rfl).trans rfl)
   refine x_ite hb ?_
   rw [ev]
   by_cases h2:b = true /\ c = 46 /\ sh = false
   ·obtain ⟨rfl,rfl,rfl⟩:=h2
    refine (if_pos rfl).trans ?_
    rw [if_pos ⟨rfl,rfl,rfl⟩]
    exact x_bin (x:=sx (List.replicate n 46)) (y:=sx [46]) (x_bin (x:=sx [46]) (y:=.int n) rfl rfl (mult_rep0 46 n hn)) rfl (add_str (by rw [List.length_replicate]; show n + 1 <= big; lia))
   ·rw [if_neg h2]
    refine (if_neg ?_).trans rfl
    ·show ¬ (b && (([c] == [46]) && !sh)) = true
     intro q
     rw [Bool.and_eq_true,Bool.and_eq_true,Bool.not_eq_true'] at q
     exact h2 ⟨q.1,(List.cons.inj (eq_of_beq q.2.1)).1,q.2.2⟩
noncomputable def vStep (n:Nat) (q:List Nat × List Nat × Bool × Sl × Sl) (p:Pc):List Nat × List Nat × Bool × Sl × Sl:=(q.1 ++ lvC n q.2.2.1 q.2.1 p,[p.2],lvB n p,.rv (.d (.bool p.1)),.rv (.d (sx [p.2])))
theorem vStep_fst (n:Nat):∀ (ps:List Pc) (q:List Nat × List Nat × Bool × Sl × Sl),(ps.foldl (vStep n) q).1 = q.1 ++ lvF n q.2.2.1 q.2.1 ps:=by
 intro ps
 induction ps with
 | nil => intro q; exact (List.append_nil _).symm
 | cons p ps ih => intro q; rw [List.foldl_cons,ih]; exact List.append_assoc ..
theorem run_v (k:Nat) (x y:PyData):runFn fns2 (k + 1) "_law_value" [.d x,.d y] = ((evS (runFn fns2 k) b2__law_value [.rv (.d x),.rv (.d y),.rv .un,.rv .un,.rv .un,.rv .un,.rv .un]).bind (·.1)):=by rfl
theorem value2 (k:Nat) {n:Nat} {ps:List Pc} (hn:n <= 100) (hl:ps.length <= 9000):runFn fns2 (k + 1) "_law_value" [.d (pcsD ps),.d (.int n)] = some (sx (lvF n false [] ps)):=by
 have hbig:big = 1000000:=rfl
 refine (run_v k _ _).trans ?_
 have hloop:=forD_acc (step:=fun x σ => (bindT 2 x).bind fun tg => evS (runFn fns2 k) bVal (setAll σ [5,6] tg)) (fun q:List Nat × List Nat × Bool × Sl × Sl => valS (.rv (.d (pcsD ps))) n q.1 q.2.1 q.2.2.1 q.2.2.2.1 q.2.2.2.2) pcD (vStep n)
  (fun q l => q.1.length + 102 * l.length <= 950000 /\ q.2.1.length <= 1) (fun q p r ⟨h1,h2⟩ => by
   rw [List.length_cons] at h1
   have hc:=lvC_len (n:=n) (b:=q.2.2.1) (last:=q.2.1) (p:=p)
   refine ⟨evS_val hn (by lia) h2,?_,Nat.le_refl 1⟩
   show (q.1 ++ lvC n q.2.2.1 q.2.1 p).length + 102 * r.length <= 950000
   rw [List.length_append]; lia) ps ([],[],false,.rv .un,.rv .un) ⟨by show 0 + 102 * ps.length <= 950000; lia,by decide⟩
 have hf:=vStep_fst n ps ([],[],false,.rv .un,.rv .un)
 rw [List.nil_append] at hf
 rw [hf] at hloop
 generalize ps.foldl (vStep n) ([],[],false,.rv .un,.rv .un) = z at hloop
 refine ret_run (σ':=valS (.rv (.d (pcsD ps))) n (lvF n false [] ps) z.2.1 z.2.2.1 z.2.2.2.1 z.2.2.2.2) ?_
 refine (e_asg (d:=sx []) rfl).trans ((e_asg (d:=sx []) rfl).trans ((e_asg (d:=.bool false) rfl).trans ?_))
 exact (e_for (is:=[5,6]) (b:=bVal) (r:=.ret (.var 2)) (it:=.var 0) (d0:=pcsD ps) (xs:=ps.map pcD) (σ:=valS (.rv (.d (pcsD ps))) n [] [] false (.rv .un) (.rv .un)) rfl rfl hloop).trans rfl
end
noncomputable def wf:List Nat -> List Nat -> List (List Nat)
 | cur,[] => if cur.isEmpty = true then [] else [cur]
 | cur,c :: r => if isSp c = true then (if cur.isEmpty = true then wf [] r else cur :: wf [] r) else wf (cur ++ [c]) r
theorem fin_scan:∀ (l cur:List Nat) (ws:List Str),KWd.fin (l.foldl KWd.step (ws,mkS cur)) = ws ++ (wf cur l).map mkS:=by
 intro l
 induction l with
 | nil =>
  intro cur ws
  cases cur with
  | nil => exact (List.append_nil _).symm
  | cons c r => rfl
 | cons c r ih =>
  intro cur ws
  rw [List.foldl_cons]
  show KWd.fin (r.foldl KWd.step (KWd.step (ws,mkS cur) c)) = ws ++ (if isSp c = true then (if cur.isEmpty = true then wf [] r else cur :: wf [] r) else wf (cur ++ [c]) r).map mkS
  unfold KWd.step
  cases hc:isSp c with
  | true =>
   rw [if_pos rfl,if_pos (show Unicode.isSpace c = true from hc)]
   cases cur with
   | nil => exact ih [] ws
   | cons d u =>
    refine (ih [] (ws ++ [mkS (d :: u)])).trans ?_
    rw [List.append_assoc]; rfl
  | false =>
   rw [if_neg Bool.false_ne_true,if_neg (by rw [show Unicode.isSpace c = false from hc]; decide)]
   have e:mkS cur ++ (⟨#[c]⟩:Str) = mkS (cur ++ [c]):=str_append (mkS cur) ⟨#[c]⟩
   show KWd.fin (r.foldl KWd.step (ws,mkS cur ++ (⟨#[c]⟩:Str))) = _
   rw [e]; exact ih (cur ++ [c]) ws
theorem words_eq (l:List Nat):Txt.words (mkS l) = (wf [] l).map mkS:=(KWd.words_scan (mkS l)).trans (fin_scan l [] [])
noncomputable def consH (x:Nat):List (List Nat) -> List (List Nat)
 | [] => [[x]]
 | h :: t => (x :: h) :: t
noncomputable def spC (c:Nat):List Nat -> List (List Nat)
 | [] => [[]]
 | x :: r => if x = c then [] :: spC c r else consH x (spC c r)
theorem spC_ne (c:Nat) (l:List Nat):∃ h t,spC c l = h :: t:=by
 cases l with
 | nil => exact ⟨_,_,rfl⟩
 | cons x r =>
  show ∃ h t,(if x = c then [] :: spC c r else consH x (spC c r)) = h :: t
  split
  ·exact ⟨_,_,rfl⟩
  ·cases spC c r <;> exact ⟨_,_,rfl⟩
theorem spC_free {c:Nat} (X:List Nat):∀ p:List Nat,c ∉ p -> spC c p = [p] /\ spC c (p ++ c :: X) = p :: spC c X:=by
 intro p
 induction p with
 | nil => intro _; exact ⟨rfl,if_pos rfl⟩
 | cons x p ih =>
  intro h
  obtain ⟨h1,h2⟩:=ih fun m => h (List.mem_cons_of_mem _ m)
  have hx:x ≠ c:=fun e => h (by rw [e]; exact List.mem_cons_self)
  constructor
  ·show (if x = c then [] :: spC c p else consH x (spC c p)) = _; rw [if_neg hx,h1]; rfl
  ·show (if x = c then [] :: spC c (p ++ c :: X) else consH x (spC c (p ++ c :: X))) = _; rw [if_neg hx,h2]; rfl
theorem spC_join {c:Nat}:∀ P:List (List Nat),P ≠ [] -> (∀ p ∈ P,c ∉ p) -> spC c (joinL [c] P) = P:=by
 intro P
 induction P with
 | nil => intro h; exact (h rfl).elim
 | cons p P ih =>
  intro _ h
  cases P with
  | nil => exact (spC_free [] p (h p List.mem_cons_self)).1
  | cons q r =>
   have ih':=ih (List.cons_ne_nil _ _) fun z m => h z (List.mem_cons_of_mem _ m)
   show spC c (p ++ [c] ++ joinL [c] (q :: r)) = _
   rw [List.append_assoc]
   exact ((spC_free (joinL [c] (q :: r)) p (h p List.mem_cons_self)).2).trans (congrArg _ ih')
theorem split_ne (x y:Str):Txt.split x y ≠ []:=by
 unfold Txt.split
 split
 ·exact List.cons_ne_nil _ _
 ·split
  ·exact List.cons_ne_nil _ _
  ·rw [StrLaws.partsBetween_eq]
   obtain ⟨p,r,e⟩:=StrLaws.partsFrom_ne x y.length 0 (Builtin.Str.occurrences x y 0 x.length (x.length + 1))
   rw [e]; exact List.cons_ne_nil _ _
theorem split_eq (c:Nat) (l:List Nat):(Txt.split (mkS l) (mkS [c])).map tl = spC c l:=by
 have h1:=StrLaws.join_split (mkS l) (mkS [c])
 rw [<- StrLaws.glued_eq_join,glued_join] at h1
 have h2:joinL [c] ((Txt.split (mkS l) (mkS [c])).map tl) = l:=congrArg tl h1
 have h3:=spC_join (c:=c) ((Txt.split (mkS l) (mkS [c])).map tl) (fun e => split_ne _ _ (List.map_eq_nil_iff.mp e)) fun p m => by
  obtain ⟨s,ms,rfl⟩:=List.mem_map.mp m
  exact StrLaws.split_free (mkS l) c s ms
 rw [h2] at h3
 exact h3.symm
theorem split_eq' (c:Nat) (l:List Nat):Txt.split (mkS l) (mkS [c]) = (spC c l).map mkS:=by
 rw [<- split_eq,List.map_map]
 exact ((List.map_congr_left fun s _ => mkS_tl s).trans (List.map_id _)).symm
noncomputable def semi (c:Nat):Nat:=if c = 59 then 32 else c
theorem join_sp:∀ l:List Nat,joinL [32] (spC 59 l) = l.map semi:=by
 intro l
 induction l with
 | nil => rfl
 | cons x r ih =>
  obtain ⟨h,t,e⟩:=spC_ne 59 r
  show joinL [32] (if x = 59 then [] :: spC 59 r else consH x (spC 59 r)) = semi x :: r.map semi
  rw [<- ih,e]
  unfold semi
  by_cases hx:x = 59
  ·rw [if_pos hx,if_pos hx]; rfl
  ·rw [if_neg hx,if_neg hx]
   cases t <;> rfl
theorem semi_eq (l:List Nat):semiD (mkS l) = mkS (l.map semi):=by
 refine (StrLaws.replace_one (mkS l) (mkS [32]) 59).trans ?_
 rw [<- StrLaws.glued_eq_join,glued_join]
 show mkS (joinL [32] ((Txt.split (mkS l) (mkS [59])).map tl)) = _
 rw [split_eq,join_sp]
noncomputable def stAdd (k:List Nat) (q:List (List PV) × List PV) (w:List Nat):List (List PV) × List PV:=(q.1,q.2 ++ [emit k w])
noncomputable def stWords (k:List Nat) (q:List (List PV) × List PV) (ws:List (List Nat)):List (List PV) × List PV:=ws.foldl (stAdd k) q
noncomputable def stNew (q:List (List PV) × List PV):List (List PV) × List PV:=(q.1 ++ [q.2],[])
noncomputable def stNext (k:List Nat) (q:List (List PV) × List PV) (p:List Nat):List (List PV) × List PV:=stWords k (stNew q) (wf [] p)
noncomputable def stP (k:List Nat) (q:List (List PV) × List PV) (cur:List Nat):List (List Nat) -> List (List PV) × List PV
 | [] => q
 | h :: t => t.foldl (stNext k) (stWords k q (wf cur h))
theorem mach_eq (k:List Nat):∀ (X:List Nat) (R:List (List PV)) (ps:List PV) (cur:List Nat),mend k (X.foldl (mstep k) (R,ps,cur)) = stP k (R,ps) cur (spC 44 (X.map semi)):=by
 intro X
 induction X with
 | nil =>
  intro R ps cur
  cases cur with
  | nil => rfl
  | cons c r => rfl
 | cons c X ih =>
  intro R ps cur
  rw [List.foldl_cons,List.map_cons]
  show _ = stP k (R,ps) cur (if semi c = 44 then [] :: spC 44 (X.map semi) else consH (semi c) (spC 44 (X.map semi)))
  obtain ⟨h,t,e⟩:=spC_ne 44 (X.map semi)
  by_cases h44:c = 44
  ·rw [show mstep k (R,ps,cur) c = (R ++ [addE k ps cur],[],[]) from if_pos h44,if_pos (by rw [h44]; rfl),ih,e]
   cases cur <;> rfl
  ·by_cases hs:isSp c = true \/ c = 59
   ·rw [show mstep k (R,ps,cur) c = (R,addE k ps cur,[]) from (if_neg h44).trans (if_pos hs)]
    have hsp:isSp (semi c) = true:=by
     unfold semi
     by_cases h59:c = 59
     ·rw [if_pos h59]; decide +kernel
     ·rw [if_neg h59]; exact hs.resolve_right h59
    have h4:semi c ≠ 44:=fun q => by rw [q,sp44] at hsp; cases hsp
    rw [if_neg h4,ih,e]
    show stP k (R,addE k ps cur) [] (h :: t) = t.foldl (stNext k) (stWords k (R,ps) (if isSp (semi c) = true then (if cur.isEmpty = true then wf [] h else cur :: wf [] h) else wf (cur ++ [semi c]) h))
    rw [if_pos hsp]
    cases cur <;> rfl
   ·rw [show mstep k (R,ps,cur) c = (R,ps,cur ++ [c]) from (if_neg h44).trans (if_neg hs)]
    have h59:semi c = c:=if_neg fun q => hs (.inr q)
    have hsp:isSp c = false:=by cases hq:isSp c with | false => rfl | true => exact (hs (.inl hq)).elim
    rw [h59,if_neg h44,ih,e]
    show stP k (R,ps) (cur ++ [c]) (h :: t) = t.foldl (stNext k) (stWords k (R,ps) (if isSp c = true then (if cur.isEmpty = true then wf [] h else cur :: wf [] h) else wf (cur ++ [c]) h))
    rw [hsp,if_neg Bool.false_ne_true]; rfl
noncomputable abbrev QS:=List (List PV) × List PV
noncomputable def oQ (q:QS):Sl:=.own ((q.1 ++ [q.2]).map fun ps:List PV => .ow (ps.map pairD))
noncomputable def sz (q:QS):Nat:=q.1.length + q.2.length
theorem sz_new (q:QS):sz (stNew q) <= sz q + 1:=by
 show (q.1 ++ [q.2]).length + 0 <= _
 rw [List.length_append]; unfold sz; show q.1.length + 1 + 0 <= _; (simp +arith)
theorem sz_add (k:List Nat) (q:QS) (w:List Nat):sz (stAdd k q w) = sz q + 1:=by
 show q.1.length + (q.2 ++ [emit k w]).length = _
 rw [List.length_append]; rfl
theorem sz_words (k:List Nat):∀ (ws:List (List Nat)) (q:QS),sz (stWords k q ws) = sz q + ws.length:=by
 intro ws
 induction ws with
 | nil => intro q; rfl
 | cons w ws ih => intro q; show sz (stWords k (stAdd k q w) ws) = _; rw [ih,sz_add,List.length_cons]; (simp +arith)
theorem appLast_snoc {d:PyData} {ds:List PyData} (h:ds.length < big):∀ l0:List Itm,appLast d (l0 ++ [.ow ds]) = some (l0 ++ [.ow (ds ++ [d])]):=by
 have e0:appOw d (.ow ds) = some (.ow (ds ++ [d])):=if_pos h
 intro l0
 induction l0 with
 | nil => show (appOw d (.ow ds)).map _ = _; rw [e0]; rfl
 | cons x l0 ih =>
  cases l0 with
  | nil => show (appLast d ([] ++ [.ow ds])).map (x :: ·) = _; rw [ih]; rfl
  | cons y r => show (appLast d (y :: r ++ [.ow ds])).map (x :: ·) = _; rw [ih]; rfl
section
variable {F:Str -> List RV -> Option PyData} {r a b:Bk} {σ σ':List Sl} {q:QS} {e c:E} {d:PyData}
theorem onOwn_some {i:Nat} {l l':List Itm} {f:List Itm -> Option (List Itm)} (h:getSl σ i = .own l) (hf:f l = some l') (hl:l'.length <= big):onOwn σ i f = some (σ.set i (.own l')):=by
 unfold onOwn
 rw [h]
 show (f l).bind _ = _
 rw [hf]; exact if_pos hl
theorem e_appo0 (h:getSl σ 2 = oQ q) (hl:sz q + 2 <= big):evS F (.appo 2 (.lst .nil) r) σ = evS F r (σ.set 2 (oQ (stNew q))):=by
 show (onOwn σ 2 fun l => some (l ++ [.ow []])).bind (evS F r) = _
 have e1:((q.1 ++ [q.2]).map fun ps:List PV => Itm.ow (ps.map pairD)) ++ [Itm.ow []] = ((stNew q).1 ++ [(stNew q).2]).map fun ps:List PV => Itm.ow (ps.map pairD):=by
  show _ = ((q.1 ++ [q.2]) ++ [[]]).map fun ps:List PV => Itm.ow (ps.map pairD)
  rw [List.map_append (l₁:=q.1 ++ [q.2])]; rfl
 rw [onOwn_some (f:=fun l => some (l ++ [Itm.ow []])) h (congrArg some e1) (by rw [List.length_map,List.length_append]; unfold sz at hl; show (q.1 ++ [q.2]).length + 1 <= big; rw [List.length_append]; show q.1.length + 1 + 1 <= big; lia)]; rfl
theorem e_appl {p:PV} (he:evE F e (rvs σ) = some (pairD p)) (h:getSl σ 2 = oQ q) (hl:sz q + 2 <= big):evS F (.appl 2 e r) σ = evS F r (σ.set 2 (oQ (q.1,q.2 ++ [p]))):=by
 show (evE F e (rvs σ)).bind (fun d => (onOwn σ 2 (appLast d)).bind fun σ' => evS F r σ') = _
 rw [he,Option.bind_some]
 have e1:appLast (pairD p) ((q.1 ++ [q.2]).map fun ps:List PV => Itm.ow (ps.map pairD)) = some ((q.1 ++ [q.2 ++ [p]]).map fun ps:List PV => Itm.ow (ps.map pairD)):=by
  rw [List.map_append,List.map_append]
  refine (appLast_snoc (by rw [List.length_map]; unfold sz at hl; lia) _).trans ?_
  rw [<- List.map_singleton (f:=pairD),<- List.map_append]; rfl
 rw [onOwn_some h e1 (by rw [List.length_map,List.length_append]; unfold sz at hl; show q.1.length + 1 <= big; lia)]; rfl
theorem cut_from (w:List Nat) (k:Nat):cut w (some (k:Int)) none = w.drop k:=by
 unfold cut hiOf loOf nSl
 show (w.take w.length).drop (if (k:Int) < 0 then _ else min (k:Int).toNat w.length) = _
 rw [if_neg (Int.not_lt.mpr (Int.natCast_nonneg k)),Int.toNat_natCast,List.take_length]
 by_cases h:k <= w.length
 ·rw [Nat.min_eq_left h]
 ·rw [Nat.min_eq_right (Nat.le_of_not_le h),List.drop_length,List.drop_eq_nil_of_le (Nat.le_of_not_le h)]
noncomputable def bSt:Bk:=(.ite (.cmp .In (.str (mkS [61])) (.var 8)) (.appl 2 (.tup (.cons (.var 4) (.cons (.slc (.var 8) (.bin .Add (.len (.var 4)) (.int 1)) .none) .nil))) .nil) (.appl 2 (.tup (.cons (.var 8) (.cons .none .nil))) .nil) .nil)
noncomputable def rS (W N:Sl) (q:QS) (g:Sl) (key:List Nat) (pc pa kk st dd:Sl):List Sl:=[W,N,oQ q,g,.rv (.d (sx key)),pc,pa,kk,st,dd]
theorem evS_st {W N g pc pa kk dd:Sl} {key w:List Nat} (hl:sz q + 2 <= big):evS F bSt (rS W N q g key pc pa kk (.rv (.d (sx w))) dd) = some (none,rS W N (stAdd key q w) g key pc pa kk (.rv (.d (sx w))) dd):=by
 have hc:evE F (.cmp .In (.str (mkS [61])) (.var 8)) (rvs (rS W N q g key pc pa kk (.rv (.d (sx w))) dd)) = some (.bool (w.contains 61)):=x_cmp (x:=sx [61]) (y:=sx w) rfl rfl rfl
 unfold bSt stAdd emit
 cases hw:w.contains 61 with
 | true =>
  rw [hw] at hc
  rw [if_pos rfl]
  refine (e_last_t hc rfl).trans ((e_appl (p:=(key,some (w.drop (key.length + 1)))) ?_ rfl hl).trans rfl)
  refine x_tup (x_l2 rfl (x_slc (x:=sx w) (l:=some ((key.length + 1:Nat):Int)) (h:=none) rfl ?_ rfl ?_))
  ·show (binD .Add (.int (key.length:Int)) (.int 1)).bind optI = _; rfl
  ·show some (sx (cut w (some ((key.length + 1:Nat):Int)) none)) = _; rw [cut_from]; rfl
 | false =>
  rw [hw] at hc
  rw [if_neg Bool.false_ne_true]
  exact (e_last_f hc rfl).trans ((e_appl (p:=(w,none)) (x_tup (x_l2 rfl rfl)) rfl hl).trans rfl)
theorem st_fst (key:List Nat):∀ (ws:List (List Nat)) (z:QS × Sl),(ws.foldl (fun (z:QS × Sl) w => (stAdd key z.1 w,Sl.rv (.d (sx w)))) z).1 = stWords key z.1 ws:=by
 intro ws
 induction ws with
 | nil => intro z; rfl
 | cons w ws ih => intro z; rw [List.foldl_cons,ih]; rfl
theorem evS_sts {W N g pc pa kk dd st:Sl} {key:List Nat} {ws:List (List Nat)} (hl:sz q + ws.length <= 900000):∃ st',forD (fun x σ => (bindT 1 x).bind fun tg => evS F bSt (setAll σ [8] tg)) (ws.map fun w => sx w) (rS W N q g key pc pa kk st dd) = some (none,rS W N (stWords key q ws) g key pc pa kk st' dd):=by
 have hloop:=forD_acc (step:=fun x σ => (bindT 1 x).bind fun tg => evS F bSt (setAll σ [8] tg)) (fun z:QS × Sl => rS W N z.1 g key pc pa kk z.2 dd) (fun w:List Nat => sx w) (fun z w => (stAdd key z.1 w,Sl.rv (.d (sx w))))
  (fun z l => sz z.1 + l.length <= 900000) (fun z w r h => by
   rw [List.length_cons] at h
   refine ⟨evS_st (Nat.le_trans (show sz z.1 + 2 <= 900001 by lia) (by decide)),?_⟩
   show sz (stAdd key z.1 w) + r.length <= 900000
   rw [sz_add]; lia) ws (q,st) hl
 rw [st_fst] at hloop
 exact ⟨_,hloop⟩
theorem wf_len:∀ (l cur:List Nat),(wf cur l).length <= l.length + 1:=by
 intro l
 induction l with
 | nil =>
  intro cur
  cases cur with
  | nil => exact Nat.zero_le _
  | cons _ _ => exact Nat.le_refl _
 | cons c r ih =>
  intro cur
  show (if isSp c = true then (if cur.isEmpty = true then wf [] r else cur :: wf [] r) else wf (cur ++ [c]) r).length <= r.length + 1 + 1
  split
  ·split
   ·exact Nat.le_succ_of_le (ih [])
   ·exact Nat.succ_le_succ (ih [])
  ·exact Nat.le_succ_of_le (ih _)
theorem spC_len (c:Nat):∀ l:List Nat,(spC c l).length <= l.length + 1 /\ ∀ p ∈ spC c l,p.length <= l.length:=by
 intro l
 induction l with
 | nil => exact ⟨Nat.le_refl _,fun p m => by rw [List.mem_singleton.mp m]; exact Nat.le_refl _⟩
 | cons x r ih =>
  obtain ⟨h1,h2⟩:=ih
  show (if x = c then [] :: spC c r else consH x (spC c r)).length <= r.length + 1 + 1 /\ ∀ p ∈ (if x = c then [] :: spC c r else consH x (spC c r)),p.length <= r.length + 1
  split
  ·refine ⟨Nat.succ_le_succ h1,fun p m => ?_⟩
   rcases List.mem_cons.mp m with rfl | m
   ·exact Nat.zero_le _
   ·exact Nat.le_succ_of_le (h2 p m)
  ·obtain ⟨h,t,e⟩:=spC_ne c r
   rw [e] at h1 h2 ⊢
   refine ⟨Nat.le_succ_of_le h1,fun p m => ?_⟩
   rcases List.mem_cons.mp m with rfl | m
   ·exact Nat.succ_le_succ (h2 h List.mem_cons_self)
   ·exact Nat.le_succ_of_le (h2 p (List.mem_cons_of_mem _ m))
noncomputable def bPt:Bk:=(.ite (.cmp .Gt (.var 7) (.int 0)) (.appo 2 (.lst .nil) .nil) .nil (.for_ [8] (.meth "split" (.idx (.var 6) (.var 7)) .nil) bSt .nil))
noncomputable def ptF (key:List Nat) (P:List (List Nat)) (q:QS) (k:Nat):QS:=stWords key (if k = 0 then q else stNew q) (wf [] (P.getD k []))
theorem evS_pt {W N g pc dd st:Sl} {key:List Nat} {P:List (List Nat)} {k:Nat} (hk:k < P.length) (hp:∀ p ∈ P,p.length <= 100) (hl:sz q <= 800000):∃ st',evS F bPt (rS W N q g key pc (.rv (.d (.list (P.map fun p => sx p)))) (.rv (.d (.int (0 + (k:Int))))) st dd) = some (none,rS W N (ptF key P q k) g key pc (.rv (.d (.list (P.map fun p => sx p)))) (.rv (.d (.int (0 + (k:Int))))) st' dd):=by
 have hbig:big = 1000000:=rfl
 have hat:P[k]? = some (P.getD k []):=by rw [List.getD_eq_getElem?_getD,List.getElem?_eq_getElem hk]; rfl
 have hpl:=hp _ (List.mem_of_getElem? hat)
 have hwl:=wf_len (P.getD k []) []
 have hq1:sz (if k = 0 then q else stNew q) <= sz q + 1:=by
  split
  ·exact Nat.le_succ _
  ·exact sz_new q
 have hm:∀ q',evE F (.meth "split" (.idx (.var 6) (.var 7)) .nil) (rvs (rS W N q' g key pc (.rv (.d (.list (P.map fun p => sx p)))) (.rv (.d (.int (0 + (k:Int))))) st dd)) = some (.list ((wf [] (P.getD k [])).map fun w => sx w)):=fun q' => by
  refine x_meth (x:=sx (P.getD k [])) (ys:=[]) (x_idx (x:=.list (P.map fun p => sx p)) (y:=.int (0 + (k:Int))) rfl rfl (idx_nat (en:=fun p:List Nat => sx p) hat)) rfl ?_
  show (if (tl (mkS (P.getD k []))).length <= 10000 then some (PyData.list ((Txt.words (mkS (P.getD k []))).map .str)) else none) = _
  rw [if_pos (show (P.getD k []).length <= 10000 by lia),words_eq,List.map_map]; rfl
 obtain ⟨st',hf⟩:=evS_sts (F:=F) (q:=if k = 0 then q else stNew q) (W:=W) (N:=N) (g:=g) (pc:=pc) (pa:=.rv (.d (.list (P.map fun p => sx p)))) (kk:=.rv (.d (.int (0 + (k:Int))))) (dd:=dd) (st:=st) (key:=key) (ws:=wf [] (P.getD k [])) (by lia)
 refine ⟨st',?_⟩
 have hrest:evS F (.for_ [8] (.meth "split" (.idx (.var 6) (.var 7)) .nil) bSt .nil) (rS W N (if k = 0 then q else stNew q) g key pc (.rv (.d (.list (P.map fun p => sx p)))) (.rv (.d (.int (0 + (k:Int))))) st dd) = some (none,rS W N (ptF key P q k) g key pc (.rv (.d (.list (P.map fun p => sx p)))) (.rv (.d (.int (0 + (k:Int))))) st' dd):=
  (e_for (is:=[8]) (b:=bSt) (r:=.nil) (hm _) rfl hf).trans rfl
 have hc:evE F (.cmp .Gt (.var 7) (.int 0)) (rvs (rS W N q g key pc (.rv (.d (.list (P.map fun p => sx p)))) (.rv (.d (.int (0 + (k:Int))))) st dd)) = some (.bool (decide ((0:Int) < 0 + (k:Int)))):=x_cmp (x:=.int (0 + (k:Int))) (y:=.int 0) rfl rfl rfl
 unfold bPt
 by_cases h0:k = 0
 ·rw [if_pos h0] at hrest
  exact (e_skip hc (by show decide _ = false; rw [h0]; rfl)).trans hrest
 ·rw [if_neg h0] at hrest
  refine (e_ite_t (σ':=rS W N (stNew q) g key pc (.rv (.d (.list (P.map fun p => sx p)))) (.rv (.d (.int (0 + (k:Int))))) st dd) hc ?_ ((e_appo0 rfl (by lia)).trans rfl)).trans hrest
  show decide ((0:Int) < 0 + (k:Int)) = true
  exact decide_eq_true (by lia)
theorem pt_all (key:List Nat) (P:List (List Nat)) (hP:P ≠ []) (q:QS):(List.range P.length).foldl (ptF key P) q = stP key q [] P:=by
 cases P with
 | nil => exact (hP rfl).elim
 | cons h t =>
  rw [List.length_cons,List.range_succ_eq_map,List.foldl_cons,List.foldl_map]
  have e:t = (List.range t.length).map fun k => t.getD k []:=by
   refine List.ext_getElem (by rw [List.length_map,List.length_range]) fun i h1 h2 => ?_
   rw [List.getElem_map,List.getElem_range,List.getD_eq_getElem?_getD,List.getElem?_eq_getElem h1]; rfl
  show (List.range t.length).foldl (fun q k => stNext key q (t.getD k [])) (stWords key q (wf [] h)) = t.foldl (stNext key) (stWords key q (wf [] h))
  conv => rhs; rw [e,List.foldl_map]
end
noncomputable def wB (w:Wd):Prop:=w.2.1 < 128 /\ w.2.2.length <= 4 /\ ∀ p ∈ w.2.2,p.2 < 0x110000
noncomputable def wD (w:Wd):PyData:=.tuple [sx w.1,sx [46,w.2.1],pcsD w.2.2]
noncomputable def xW (w:Wd):List Nat:=[46,w.2.1] ++ 61 :: 34 :: (wr w.2.2 ++ [34])
theorem xW_len {w:Wd} (h:wB w):(xW w).length <= 20:=by
 have:=wr_len w.2.2
 have:=h.2.1
 show (wr w.2.2 ++ [34]).length + 1 + 1 + 1 + 1 <= 20
 rw [List.length_append]
 show (wr w.2.2).length + 1 + 1 + 1 + 1 + 1 <= 20
 lia
theorem xW_ok {w:Wd} (h:wB w):∀ c ∈ (xW w).map semi,c < 0x110000:=fun c m => by
 obtain ⟨d,md,rfl⟩:=List.mem_map.mp m
 have hd:d < 0x110000:=by
  rcases List.mem_append.mp md with md | md
  ·rcases List.mem_cons.mp md with rfl | md
   ·decide
   ·rw [List.mem_singleton.mp md]; exact Nat.lt_trans h.1 (by decide)
  ·rcases List.mem_cons.mp md with rfl | md
   ·decide
   ·rcases List.mem_cons.mp md with rfl | md
    ·decide
    ·rcases List.mem_append.mp md with md | md
     ·obtain ⟨p,mp,mc⟩:=List.mem_flatMap.mp md
      unfold wr1 at mc
      split at mc
      ·rcases List.mem_cons.mp mc with rfl | mc
       ·decide
       ·rw [List.mem_singleton.mp mc]; exact h.2.2 p mp
      ·rw [List.mem_singleton.mp mc]; exact h.2.2 p mp
     ·rw [List.mem_singleton.mp md]; decide
 unfold semi
 split
 ·decide
 ·exact hd
theorem rsp_eq {w:Wd} (h:wB w):rspD (sx (xW w)) = some (.list ((spC 44 ((xW w).map semi)).map fun p => sx p)):=by
 have hl:=xW_len h
 have hs:semiD (mkS (xW w)) = mkS ((xW w).map semi):=semi_eq _
 show (if (tl (mkS (xW w))).length <= 10000 /\ PyData.strOk (semiD (mkS (xW w))) = true /\ (tl (semiD (mkS (xW w)))).length <= 10000 then some (PyData.list ((Txt.split (semiD (mkS (xW w))) (mkS [44])).map .str)) else none) = _
 rw [hs,if_pos ⟨show (xW w).length <= 10000 by lia,strOk_mkS.mpr (xW_ok h),by show ((xW w).map semi).length <= 10000; rw [List.length_map]; lia⟩,split_eq',List.map_map]; rfl
theorem eqv_pc (p:Pc):eqD (pcD p) (.tuple [.bool true,sx [10]]) = some (p == (true,10)):=by
 obtain ⟨a,c⟩:=p
 have hd:min (pcD (a,c)).depth (PyData.tuple [.bool true,sx [10]]).depth <= 64:=by
  refine Nat.le_trans (Nat.min_le_right _ _) ?_
  simp [PyData.depth,PyData.depthAll]
 show (if min (pcD (a,c)).depth (PyData.tuple [.bool true,sx [10]]).depth <= 64 then some (PyData.eqv (pcD (a,c)) (.tuple [.bool true,sx [10]])) else none) = _
 rw [if_pos hd]
 have:PyData.eqv (pcD (a,c)) (.tuple [.bool true,sx [10]]) = (a == true && (mkS [c] == mkS [10] && true)):=by
  simp [pcD,PyData.eqv,PyData.eqvAll]
 rw [this]
 have e2:(mkS [c] == mkS [10]) = (c == 10):=by
  by_cases h:c = 10
  ·subst h; simp
  ·rw [beq_false_of_ne h]
   exact beq_false_of_ne fun e => h (List.cons.inj (congrArg tl e)).1
 rw [e2,Bool.and_true]; rfl
theorem any_pc:∀ ps:List Pc,anyEq (.tuple [.bool true,sx [10]]) (ps.map pcD) = some (brk ps):=by
 intro ps
 induction ps with
 | nil => rfl
 | cons p ps ih =>
  show ((eqD (pcD p) (.tuple [.bool true,sx [10]])).bind fun b => (anyEq (.tuple [.bool true,sx [10]]) (ps.map pcD)).map fun c => b || c) = some (brk (p :: ps))
  rw [eqv_pc,ih]
  show some ((p == (true,10)) || brk ps) = _
  unfold brk
  rw [List.contains_cons,Bool.beq_comm]
section
variable {q:QS} {k:Nat}
noncomputable def eDt:E:=(.ite (.bor (.cons (.cmp .Eq (.var 3) (.str (mkS []))) (.cons (.cmp .In (.idx (.var 3) (.neg (.int 1))) (.str (mkS [13,10]))) .nil))) (.var 1) (.int 0))
noncomputable def eKv:E:=(.tup (.cons (.bin .Add (.bin .Mult (.str (mkS [46])) (.var 9)) (.var 4)) (.cons (.call "_law_value" (.cons (.var 5) (.cons (.var 1) .nil))) .nil)))
noncomputable def eBk:E:=(.band (.cons (.cmp .Eq (.var 1) (.int 0)) (.cons (.cmp .In (.tup (.cons (.bool true) (.cons (.str (mkS [10])) .nil))) (.var 5)) .nil)))
noncomputable def bRR:Bk:=(.iteR eBk 6 "_law_written" (.cons (.var 4) (.cons (.var 5) .nil)) (.for_ [7] (.rng (.len (.var 6))) bPt .nil) (.asg 9 eDt (.appl 2 eKv .nil)) .nil)
noncomputable def bWd:Bk:=(.ite (.cmp .In (.str (mkS [44])) (.var 3)) (.appo 2 (.lst .nil) .nil) .nil bRR)
theorem e_dt {F:Str -> List RV -> Option PyData} {W pa kk st dd pc:Sl} {key g:List Nat} {n:Nat} (hg:g = [] \/ gOk g):evE F eDt (rvs (rS W (.rv (.d (.int n))) q (.rv (.d (sx g))) key pc pa kk st dd)) = some (.int (dt n g)):=by
 rcases hg with rfl | rfl | rfl | rfl | rfl <;> rfl
theorem stP_sz (key:List Nat):∀ (P:List (List Nat)) (q:QS),(∀ p ∈ P,p.length <= 100) -> sz (P.foldl (stNext key) q) <= sz q + 102 * P.length:=by
 intro P
 induction P with
 | nil => intro q _; exact Nat.le_refl _
 | cons p P ih =>
  intro q h
  have h1:=sz_new q
  have h2:=sz_words key (wf [] p) (stNew q)
  have h3:=wf_len p []
  have h4:=h p List.mem_cons_self
  have h5:=ih (stNext key q p) fun z m => h z (List.mem_cons_of_mem _ m)
  have h6:sz (stNext key q p) = sz (stNew q) + (wf [] p).length:=h2
  rw [List.foldl_cons,List.length_cons]; lia
theorem ptF_sz {key:List Nat} {P:List (List Nat)} (h:∀ p ∈ P,p.length <= 100) {i:Nat} (hi:i < P.length):sz (ptF key P q i) <= sz q + 102:=by
 unfold ptF
 rw [sz_words]
 have h3:=wf_len (P.getD i []) []
 have hat:P[i]? = some (P.getD i []):=by rw [List.getD_eq_getElem?_getD,List.getElem?_eq_getElem hi]; rfl
 have h4:=h _ (List.mem_of_getElem? hat)
 have hq1:sz (if i = 0 then q else stNew q) <= sz q + 1:=by
  split
  ·exact Nat.le_succ _
  ·exact sz_new q
 lia
theorem evS_bad {F:Str -> List RV -> Option PyData} {W N g pc kk st dd:Sl} {key:List Nat} {P:List (List Nat)} (h0:P ≠ []) (hp:∀ p ∈ P,p.length <= 100) (hl:P.length <= 1000) (hq:sz q <= 600000) :
  ∃ kk' st',evS F (.for_ [7] (.rng (.len (.var 6))) bPt .nil) (rS W N q g key pc (.rv (.d (.list (P.map fun p => sx p)))) kk st dd) = some (none,rS W N (stP key q [] P) g key pc (.rv (.d (.list (P.map fun p => sx p)))) kk' st' dd):=by
 have hloop:∀ (l:List Nat) (q:QS) (kk st:Sl),(∀ i ∈ l,i < P.length) -> sz q + 102 * l.length <= 800000 ->
   ∃ kk' st',forD (fun x σ => (bindT 1 x).bind fun tg => evS F bPt (setAll σ [7] tg)) (l.map fun i:Nat => .int (0 + (i:Int))) (rS W N q g key pc (.rv (.d (.list (P.map fun p => sx p)))) kk st dd) = some (none,rS W N (l.foldl (ptF key P) q) g key pc (.rv (.d (.list (P.map fun p => sx p)))) kk' st' dd):=by
  intro l
  induction l with
  | nil => intro q kk st _ _; exact ⟨kk,st,rfl⟩
  | cons i l ih =>
   intro q kk st h1 h2
   rw [List.length_cons] at h2
   have hi:=h1 i List.mem_cons_self
   obtain ⟨st1,e1⟩:=evS_pt (F:=F) (q:=q) (W:=W) (N:=N) (g:=g) (pc:=pc) (dd:=dd) (st:=st) (key:=key) hi hp (by lia)
   have h3:=ptF_sz (q:=q) (key:=key) hp hi
   obtain ⟨kk2,st2,e2⟩:=ih (ptF key P q i) (.rv (.d (.int (0 + (i:Int))))) st1 (fun j m => h1 j (List.mem_cons_of_mem _ m)) (by lia)
   refine ⟨kk2,st2,?_⟩
   rw [List.map_cons,forD]
   show (evS F bPt (rS W N q g key pc (.rv (.d (.list (P.map fun p => sx p)))) (.rv (.d (.int (0 + (i:Int))))) st dd)).bind _ = _
   rw [e1]; exact e2
 obtain ⟨kk',st',e⟩:=hloop (List.range P.length) q kk st (fun i m => List.mem_range.mp m) (by rw [List.length_range]; lia)
 rw [pt_all key P h0] at e
 refine ⟨kk',st',(e_for (is:=[7]) (b:=bPt) (r:=.nil) (d0:=.list ((List.range P.length).map fun k:Nat => .int (0 + (k:Int)))) ?_ rfl e).trans rfl⟩
 have:=x_rlen (F:=F) (e:=.var 6) (ρ:=rvs (rS W N q g key pc (.rv (.d (.list (P.map fun p => sx p)))) kk st dd)) (xs:=P.map fun p => sx p) rfl (by rw [List.length_map]; exact hl)
 rw [List.length_map] at this
 exact this
theorem e_iteR_t {F:Str -> List RV -> Option PyData} {c es:E} {i:Nat} {f:Str} {a b r:Bk} {σ σ':List Sl} {d x y:PyData} (h:evE F c (rvs σ) = some d) (ht:truth d = true) (h1:evE F (.call f es) (rvs σ) = some x) (h2:rspD x = some y) (ha:evS F a (σ.set i (.rv (.d y))) = some (none,σ')):evS F (.iteR c i f es a b r) σ = evS F r σ':=by
 show (evE F c (rvs σ)).bind _ = _
 rw [h]
 show (if truth d = true then ((evE F (.call f es) (rvs σ)).bind rspD).bind fun d => evS F a (σ.set i (.rv (.d d))) else evS F b σ).bind _ = _
 rw [if_pos ht,h1]
 show ((rspD x).bind _).bind _ = _
 rw [h2]
 show (evS F a (σ.set i (.rv (.d y)))).bind _ = _
 rw [ha]; rfl
theorem e_iteR_f {F:Str -> List RV -> Option PyData} {c es:E} {i:Nat} {f:Str} {a b r:Bk} {σ σ':List Sl} {d:PyData} (h:evE F c (rvs σ) = some d) (ht:truth d = false) (hb:evS F b σ = some (none,σ')):evS F (.iteR c i f es a b r) σ = evS F r σ':=by
 show (evE F c (rvs σ)).bind _ = _
 rw [h]
 show (if truth d = true then _ else evS F b σ).bind _ = _
 rw [ht,if_neg Bool.false_ne_true,hb]; rfl
theorem evS_wd {W pa kk st dd:Sl} {n:Nat} {w:Wd} (hw:wB w) (hg:w.1 = [] \/ gOk w.1) (hn:n <= 3) (hq:sz q <= 500000) :
  ∃ pa' kk' st' dd',evS (runFn fns2 (k + 1)) bWd (rS W (.rv (.d (.int n))) q (.rv (.d (sx w.1))) [46,w.2.1] (.rv (.d (pcsD w.2.2))) pa kk st dd) = some (none,rS W (.rv (.d (.int n))) (rdW n q w) (.rv (.d (sx w.1))) [46,w.2.1] (.rv (.d (pcsD w.2.2))) pa' kk' st' dd') /\ sz (rdW n q w) <= sz q + 3000:=by
 have hbig:big = 1000000:=rfl
 have hx:=xW_len hw
 have hps:=hw.2.1
 have hc1:evE (runFn fns2 (k + 1)) (.cmp .In (.str (mkS [44])) (.var 3)) (rvs (rS W (.rv (.d (.int n))) q (.rv (.d (sx w.1))) [46,w.2.1] (.rv (.d (pcsD w.2.2))) pa kk st dd)) = some (.bool (w.1.contains 44)):=x_cmp (x:=sx [44]) (y:=sx w.1) rfl rfl rfl
 generalize hq1:(if w.1.contains 44 = true then (q.1 ++ [q.2],[]) else q) = q1
 have hs1:sz q1 <= sz q + 1:=by
  rw [<- hq1]; split
  ·exact sz_new q
  ·exact Nat.le_succ _
 suffices h:∃ pa' kk' st' dd',evS (runFn fns2 (k + 1)) bRR (rS W (.rv (.d (.int n))) q1 (.rv (.d (sx w.1))) [46,w.2.1] (.rv (.d (pcsD w.2.2))) pa kk st dd) = some (none,rS W (.rv (.d (.int n))) (rdW n q w) (.rv (.d (sx w.1))) [46,w.2.1] (.rv (.d (pcsD w.2.2))) pa' kk' st' dd') /\ sz (rdW n q w) <= sz q1 + 2900 by
  obtain ⟨pa',kk',st',dd',e,hz⟩:=h
  refine ⟨pa',kk',st',dd',?_,by lia⟩
  unfold bWd
  cases h44:w.1.contains 44 with
  | true =>
   rw [h44] at hc1 hq1
   rw [if_pos rfl] at hq1
   exact (e_ite_t (σ':=rS W (.rv (.d (.int n))) q1 (.rv (.d (sx w.1))) [46,w.2.1] (.rv (.d (pcsD w.2.2))) pa kk st dd) hc1 rfl ((e_appo0 (q:=q) rfl (by lia)).trans (by rw [<- hq1]; rfl))).trans e
  | false =>
   rw [h44] at hc1 hq1
   rw [if_neg Bool.false_ne_true] at hq1
   subst hq1
   exact (e_skip hc1 rfl).trans e
 have hc2:evE (runFn fns2 (k + 1)) eBk (rvs (rS W (.rv (.d (.int n))) q1 (.rv (.d (sx w.1))) [46,w.2.1] (.rv (.d (pcsD w.2.2))) pa kk st dd)) = some (.bool (((n:Int) == 0) && brk w.2.2)):=by
  refine x_band2 (x_cmp (x:=.int n) (y:=.int 0) rfl rfl rfl) (x_cmp (x:=.tuple [.bool true,sx [10]]) (y:=pcsD w.2.2) (x_tup (x_l2 rfl rfl)) rfl ?_)
  show (anyEq (.tuple [.bool true,sx [10]]) (w.2.2.map pcD)) = _
  exact any_pc _
 have hn0:((n:Int) == 0) = (n == 0):=by
  by_cases h:n = 0
  ·subst h; rfl
  ·rw [beq_false_of_ne h]; exact beq_false_of_ne (by lia)
 rw [hn0] at hc2
 unfold rdW bRR
 rw [hq1]
 cases hb:(n == 0 && brk w.2.2) with
 | true =>
  rw [hb] at hc2
  rw [if_pos rfl]
  obtain ⟨l1,l2⟩:=spC_len 44 ((xW w).map semi)
  rw [List.length_map] at l1 l2
  have lp:∀ p ∈ spC 44 ((xW w).map semi),p.length <= 100:=fun p m => Nat.le_trans (l2 p m) (by lia)
  obtain ⟨h,t,e0⟩:=spC_ne 44 ((xW w).map semi)
  obtain ⟨kk',st',e⟩:=evS_bad (F:=runFn fns2 (k + 1)) (q:=q1) (W:=W) (N:=.rv (.d (.int n))) (g:=.rv (.d (sx w.1))) (pc:=.rv (.d (pcsD w.2.2))) (kk:=kk) (st:=st) (dd:=dd) (key:=[46,w.2.1]) (P:=spC 44 ((xW w).map semi)) (by rw [e0]; exact List.cons_ne_nil _ _) lp (by lia) (by lia)
  have em:mach [46,w.2.1] q1 ([46,w.2.1] ++ 61 :: 34 :: (wr w.2.2 ++ [34])) = stP [46,w.2.1] q1 [] (spC 44 ((xW w).map semi)):=mach_eq [46,w.2.1] (xW w) q1.1 q1.2 []
  rw [em]
  refine ⟨_,kk',st',dd,(e_iteR_t (σ':=_) hc2 rfl ((x_call2 (x:=sx [46,w.2.1]) (y:=pcsD w.2.2) rfl rfl).trans (written2 k (show 2 <= 10 by decide) (by lia))) (rsp_eq hw) e).trans rfl,?_⟩
  rw [e0]
  rw [e0] at l1 lp
  have hh:=wf_len h []
  have h1:=lp h List.mem_cons_self
  have h2:=stP_sz [46,w.2.1] t (stWords [46,w.2.1] q1 (wf [] h)) fun p m => lp p (List.mem_cons_of_mem _ m)
  rw [sz_words] at h2
  rw [List.length_cons] at l1
  show sz (t.foldl (stNext [46,w.2.1]) (stWords [46,w.2.1] q1 (wf [] h))) <= _
  lia
 | false =>
  rw [hb] at hc2
  rw [if_neg Bool.false_ne_true]
  have hdt:dt n w.1 <= 3:=by
   unfold dt; split
   ·exact hn
   ·exact Nat.zero_le _
  refine ⟨pa,kk,st,.rv (.d (.int (dt n w.1))),(e_iteR_f (σ':=_) hc2 rfl ((e_asg (d:=.int (dt n w.1)) (e_dt hg)).trans (e_appl (q:=q1) (p:=(kW n w,some (lvF n false [] w.2.2))) ?_ rfl (by lia)))).trans rfl,?_⟩
  ·refine x_tup (x_l2 (x_bin (x:=sx (List.replicate (dt n w.1) 46)) (y:=sx [46,w.2.1]) (x_bin (x:=sx [46]) (y:=.int (dt n w.1)) rfl rfl (mult_rep0 46 _ (by lia))) rfl (add_str ?_)) ((x_call2 (x:=pcsD w.2.2) (y:=.int n) rfl rfl).trans (value2 k (by lia) (by lia))))
   rw [List.length_replicate]; show dt n w.1 + 2 <= big; lia
  ·unfold sz
   show q1.1.length + (q1.2 ++ [_]).length <= _
   rw [List.length_append]; show q1.1.length + (q1.2.length + 1) <= q1.1.length + q1.2.length + 2900; (simp +arith)
end
theorem ne_nil (row:List PV):cmpD .NotEq (listD row) (.list []) = some (!row.isEmpty):=by
 have hd:min (listD row).depth (PyData.list []).depth <= 64:=by
  refine Nat.le_trans (Nat.min_le_right _ _) ?_
  simp [PyData.depth,PyData.depthAll]
 have e:PyData.eqv (listD row) (.list []) = row.isEmpty:=by
  cases row with
  | nil => rfl
  | cons p r => simp [listD,PyData.eqv,PyData.eqvAll]
 show (if min (listD row).depth (PyData.list []).depth <= 64 then some (PyData.eqv (listD row) (.list [])) else none).map (!·) = _
 rw [if_pos hd,e]; rfl
section
variable {F:Str -> List RV -> Option PyData}
theorem x_filt {ρ:List RV} {rows:List (List PV)} {it:E} (h:evE F it ρ = some (.list (rows.map listD))):evE F (.comp 1 it (.cmp .NotEq (.var 0) (.lst .nil)) (.var 0)) ρ = some (.list ((filt rows).map listD)):=by
 show (((evE F it ρ).bind itemsD).bind _) = _
 rw [h]
 show (compD _ (rows.map listD)).map PyData.list = _
 have key:∀ rows:List (List PV),compD (fun x => (bindT 1 x).bind fun tg => (evE F (.cmp .NotEq (.var 0) (.lst .nil)) (tg ++ ρ)).bind fun t => if truth t = true then (evE F (.var 0) (tg ++ ρ)).map some else some none) (rows.map listD) = some ((filt rows).map listD):=by
  intro rows
  induction rows with
  | nil => rfl
  | cons row rows ih =>
   rw [List.map_cons]
   have hc:evE F (.cmp .NotEq (.var 0) (.lst .nil)) (.d (listD row) :: ρ) = some (.bool (!row.isEmpty)):=x_cmp (x:=listD row) (y:=.list []) rfl rfl (ne_nil row)
   show ((((evE F (.cmp .NotEq (.var 0) (.lst .nil)) (.d (listD row) :: ρ)).bind fun t => if truth t = true then (evE F (.var 0) (.d (listD row) :: ρ)).map some else some none)).bind fun o => (compD _ (rows.map listD)).map (consO o)) = _
   rw [hc,ih]
   cases row <;> rfl
 rw [key]; rfl
theorem run_r (k:Nat) (x y:PyData):runFn fns2 (k + 1) "_law_reading" [.d x,.d y] = ((evS (runFn fns2 k) (.own1 2 (.for_ [3,4,5] (.var 0) bWd (.frz 2 (.ret (.comp 1 (.var 2) (.cmp .NotEq (.var 0) (.lst .nil)) (.var 0)))))) [.rv (.d x),.rv (.d y),.rv .un,.rv .un,.rv .un,.rv .un,.rv .un,.rv .un,.rv .un,.rv .un]).bind (·.1)):=by rfl
end
theorem reading2 (k:Nat) {n:Nat} {ws:List Wd} (hn:n <= 3) (hl:ws.length <= 100) (hw:∀ w ∈ ws,wB w /\ (w.1 = [] \/ gOk w.1)):runFn fns2 (k + 2) "_law_reading" [.d (.list (ws.map wD)),.d (.int n)] = some (.list ((rdL n ws).map listD)):=by
 refine (run_r (k + 1) _ _).trans ?_
 have hloop:∀ (l:List Wd) (q:QS) (a b c pa kk st dd:Sl),(∀ w ∈ l,wB w /\ (w.1 = [] \/ gOk w.1)) -> sz q + 3000 * l.length <= 400000 ->
   ∃ a' b' c' pa' kk' st' dd',forD (fun x σ => (bindT 3 x).bind fun tg => evS (runFn fns2 (k + 1)) bWd (setAll σ [3,4,5] tg)) (l.map wD) [.rv (.d (.list (ws.map wD))),.rv (.d (.int n)),oQ q,a,b,c,pa,kk,st,dd] = some (none,[.rv (.d (.list (ws.map wD))),.rv (.d (.int n)),oQ (l.foldl (rdW n) q),a',b',c',pa',kk',st',dd']):=by
  intro l
  induction l with
  | nil => intro q a b c pa kk st dd _ _; exact ⟨a,b,c,pa,kk,st,dd,rfl⟩
  | cons w l ih =>
   intro q a b c pa kk st dd h1 h2
   rw [List.length_cons] at h2
   obtain ⟨hb,hg⟩:=h1 w List.mem_cons_self
   obtain ⟨pa1,kk1,st1,dd1,e1,hz⟩:=evS_wd (k:=k) (q:=q) (W:=.rv (.d (.list (ws.map wD)))) (pa:=pa) (kk:=kk) (st:=st) (dd:=dd) (n:=n) hb hg hn (by lia)
   obtain ⟨a2,b2,c2,pa2,kk2,st2,dd2,e2⟩:=ih (rdW n q w) (.rv (.d (sx w.1))) (.rv (.d (sx [46,w.2.1]))) (.rv (.d (pcsD w.2.2))) pa1 kk1 st1 dd1 (fun z m => h1 z (List.mem_cons_of_mem _ m)) (by lia)
   refine ⟨a2,b2,c2,pa2,kk2,st2,dd2,?_⟩
   rw [List.map_cons,forD]
   show (evS (runFn fns2 (k + 1)) bWd (rS (.rv (.d (.list (ws.map wD)))) (.rv (.d (.int n))) q (.rv (.d (sx w.1))) [46,w.2.1] (.rv (.d (pcsD w.2.2))) pa kk st dd)).bind _ = _
   rw [e1]; exact e2
 obtain ⟨a,b,c,pa,kk,st,dd,e⟩:=hloop ws ([],[]) (.rv .un) (.rv .un) (.rv .un) (.rv .un) (.rv .un) (.rv .un) (.rv .un) hw (by show 0 + 3000 * ws.length <= 400000; lia)
 have hr:rdL n ws = filt ((ws.foldl (rdW n) ([],[])).1 ++ [(ws.foldl (rdW n) ([],[])).2]):=rfl
 rw [hr]
 generalize ws.foldl (rdW n) ([],[]) = q at e
 refine ret_run (σ':=[.rv (.d (.list (ws.map wD))),.rv (.d (.int n)),.rv (.d (.list ((q.1 ++ [q.2]).map listD))),a,b,c,pa,kk,st,dd]) ?_
 refine Eq.trans (b:=evS (runFn fns2 (k + 1)) (.for_ [3,4,5] (.var 0) bWd (.frz 2 (.ret (.comp 1 (.var 2) (.cmp .NotEq (.var 0) (.lst .nil)) (.var 0))))) [.rv (.d (.list (ws.map wD))),.rv (.d (.int n)),oQ ([],[]),.rv .un,.rv .un,.rv .un,.rv .un,.rv .un,.rv .un,.rv .un]) rfl ?_
 refine (e_for (is:=[3,4,5]) (b:=bWd) (d0:=.list (ws.map wD)) (xs:=ws.map wD) rfl rfl e).trans ?_
 have e1:frzSl (oQ q) = .rv (.d (.list ((q.1 ++ [q.2]).map listD))):=by
  show Sl.rv (.d (.list (((q.1 ++ [q.2]).map fun ps:List PV => Itm.ow (ps.map pairD)).map itmD))) = _
  rw [List.map_map]; rfl
 show evS (runFn fns2 (k + 1)) (.ret (.comp 1 (.var 2) (.cmp .NotEq (.var 0) (.lst .nil)) (.var 0))) [.rv (.d (.list (ws.map wD))),.rv (.d (.int n)),frzSl (oQ q),a,b,c,pa,kk,st,dd] = _
 rw [e1]
 exact e_ret (x_filt rfl)
noncomputable def eAn:E:=(.tup (.cons (.var 0) (.cons (.ite (.cmp .Is (.var 1) .none) .none (.call "_law_value" (.cons (.comp 1 (.var 1) (.bool true) (.tup (.cons (.bool false) (.cons (.var 0) .nil)))) (.cons (.int 1) .nil)))) .nil)))
theorem e_an (k:Nat) {ρ:List RV} {p:PV} (hv:∀ v,p.2 = some v -> v.length <= 9000):evE (runFn fns2 (k + 1)) eAn (.d (sx p.1) :: .d (valD p.2) :: ρ) = some (pairD (seP p)):=by
 obtain ⟨key,v⟩:=p
 refine x_tup (x_l2 rfl ?_)
 cases v with
 | none => exact x_ite (d:=.bool true) (x_cmp (x:=.none) (y:=.none) rfl rfl rfl) (if_pos rfl)
 | some v =>
  refine x_ite (d:=.bool false) (x_cmp (x:=sx v) (y:=.none) rfl rfl rfl) ((if_neg (by decide)).trans ?_)
  have hp:(v.map fun c => pcD (false,c)) = (v.map fun c => ((false,c):Pc)).map pcD:=by rw [List.map_map]; rfl
  have h1:evE (runFn fns2 (k + 1)) (.comp 1 (.var 1) (.bool true) (.tup (.cons (.bool false) (.cons (.var 0) .nil)))) (.d (sx key) :: .d (valD (some v)) :: ρ) = some (pcsD (v.map fun c => ((false,c):Pc))):=by
   refine (x_comp (d0:=sx v) (zs:=v) (en:=fun c:Nat => sx [c]) (g:=fun c => pcD (false,c)) rfl rfl fun c _ => rfl).trans ?_
   rw [hp]; rfl
  refine ((x_call2 (x:=pcsD (v.map fun c => ((false,c):Pc))) (y:=.int (1:Nat)) h1 rfl).trans (value2 k (by decide) (by rw [List.length_map]; exact hv v rfl))).trans ?_
  rw [val_anew]; rfl
section
variable {F:Str -> List RV -> Option PyData} {r:Bk} {σ:List Sl}
noncomputable def oD (L:List (List PV)):Sl:=.own (L.map fun ps:List PV => .ow (ps.map pairD))
theorem e_appoD {L:List (List PV)} {row:List PV} {e:E} (he:evE F e (rvs σ) = some (listD row)) (h:getSl σ 1 = oD L) (hl:L.length < big):evS F (.appo 1 e r) σ = evS F r (σ.set 1 (oD (L ++ [row]))):=by
 show ((evE F e (rvs σ)).bind isLst).bind (fun xs => (onOwn σ 1 fun l => some (l ++ [Itm.ow xs])).bind fun σ' => evS F r σ') = _
 rw [he]
 show (onOwn σ 1 fun l => some (l ++ [Itm.ow (row.map pairD)])).bind (fun σ' => evS F r σ') = _
 rw [onOwn_some (f:=fun l => some (l ++ [Itm.ow (row.map pairD)])) (l':=(L ++ [row]).map fun ps:List PV => .ow (ps.map pairD)) h (by rw [List.map_append]; rfl) (by rw [List.length_map,List.length_append]; exact hl)]; rfl
theorem pre_due {p:PV} {row:List PV} {rest:List (List PV)} (hp:p.1.length + 1 <= big):ownP (preL (mkS [46])) (oD ((p :: row) :: rest)) = some ((preA ((p :: row) :: rest)).map listD):=by
 have e1:preP (mkS [46]) (pairD p) = some (pairD (46 :: p.1,p.2)):=by
  show (binD .Add (.str (mkS [46])) (sx p.1)).map (fun z => PyData.tuple [z,valD p.2]) = _
  have e:binD .Add (.str (mkS [46])) (sx p.1) = some (sx (46 :: p.1)):=add_str (x:=[46]) (by show 1 + p.1.length <= big; lia)
  rw [e]; rfl
 show ((preP (mkS [46]) (pairD p)).map fun z => PyData.list (z :: row.map pairD)).map (fun z => z :: (rest.map fun ps:List PV => Itm.ow (ps.map pairD)).map itmD) = _
 rw [e1,List.map_map]; rfl
end
theorem run_a (k:Nat) (x:PyData):runFn fns2 (k + 1) "_law_anew" [.d x] = ((evS (runFn fns2 k) (.own 1 (.lst .nil) (.for_ [2] (.var 0) (.appo 1 (.comp 2 (.var 2) (.bool true) eAn) .nil) (.set00 1 (mkS [46]) (.frz 1 (.ret (.var 1)))))) [.rv (.d x),.rv .un,.rv .un]).bind (·.1)):=by rfl
theorem anew2 (k:Nat) {p:PV} {row:List PV} {rest:List (List PV)} (hm:muL ((p :: row) :: rest) <= 5000) (hl:((p :: row) :: rest).length <= 5000):runFn fns2 (k + 2) "_law_anew" [.d (.list (((p :: row) :: rest).map listD))] = some (.list ((anewL ((p :: row) :: rest)).map listD)):=by
 have hbig:big = 1000000:=rfl
 refine (run_a (k + 1) _).trans ?_
 have vals:∀ (L:List (List PV)),muL L <= 5000 -> ∀ r ∈ L,∀ q ∈ r,∀ v,q.2 = some v -> v.length <= 9000:=by
  intro L
  induction L with
  | nil => intro _; exact no_mem
  | cons r0 L ih =>
   intro h r m q mq v e
   have e0:muL (r0 :: L) = mu r0 + muL L:=rfl
   rcases List.mem_cons.mp m with rfl | m
   ·have h2:=(row_len r (List.ne_nil_of_mem mq)).2.2 q mq
    obtain ⟨key,v'⟩:=q
    obtain rfl:v' = some v:=e
    have:muP (key,some v) = key.length + 2 * v.length + 12:=rfl
    lia
   ·exact ih (by lia) r m q mq v e
 have hv:=vals _ hm
 have hpl:p.1.length + 1 <= big:=by
  have e0:muL ((p :: row) :: rest) = mu (p :: row) + muL rest:=rfl
  have h2:=(row_len (p :: row) (List.cons_ne_nil _ _)).2.2 p List.mem_cons_self
  have:p.1.length <= muP p:=by unfold muP; exact Nat.le_trans (Nat.le_add_right _ _) (Nat.le_add_right _ _)
  lia
 have hloop:∀ (l L:List (List PV)) (X Y:Sl),(∀ r ∈ l,∀ q ∈ r,∀ v,q.2 = some v -> v.length <= 9000) -> L.length + l.length < big ->
   ∃ Y',forD (fun x σ => (bindT 1 x).bind fun tg => evS (runFn fns2 (k + 1)) (.appo 1 (.comp 2 (.var 2) (.bool true) eAn) .nil) (setAll σ [2] tg)) (l.map listD) [X,oD L,Y] = some (none,[X,oD (L ++ seL l),Y']):=by
  intro l
  induction l with
  | nil => intro L X Y _ _; exact ⟨Y,by rw [show L ++ seL [] = L from List.append_nil L]; rfl⟩
  | cons r l ih =>
   intro L X Y h1 h2
   rw [List.length_cons] at h2
   obtain ⟨Y',e⟩:=ih (L ++ [r.map seP]) X (.rv (.d (listD r))) (fun z m => h1 z (List.mem_cons_of_mem _ m)) (by rw [List.length_append]; show L.length + 1 + l.length < big; lia)
   refine ⟨Y',?_⟩
   rw [List.map_cons,forD]
   have hc:evE (runFn fns2 (k + 1)) (.comp 2 (.var 2) (.bool true) eAn) (rvs [X,oD L,.rv (.d (listD r))]) = some (listD (r.map seP)):=by
    refine (x_comp2 (d0:=listD r) (zs:=r) (en:=pairD) (a:=fun p => sx p.1) (b:=fun p => valD p.2) (g:=fun p => pairD (seP p)) rfl rfl (fun _ => rfl) fun q m => e_an k (h1 r List.mem_cons_self q m)).trans ?_
    unfold listD; rw [List.map_map]; rfl
   show (evS (runFn fns2 (k + 1)) (.appo 1 (.comp 2 (.var 2) (.bool true) eAn) .nil) [X,oD L,.rv (.d (listD r))]).bind _ = _
   rw [e_appoD hc rfl (by lia)]
   refine Eq.trans e ?_
   unfold seL
   rw [List.map_cons,List.append_assoc]; rfl
 obtain ⟨Y,e⟩:=hloop ((p :: row) :: rest) [] (.rv (.d (.list (((p :: row) :: rest).map listD)))) (.rv .un) hv (Nat.lt_of_le_of_lt (show 0 + ((p :: row) :: rest).length <= 5000 by lia) (by decide))
 refine ret_run (σ':=[.rv (.d (.list (((p :: row) :: rest).map listD))),.rv (.d (.list ((anewL ((p :: row) :: rest)).map listD))),Y]) ?_
 refine Eq.trans (b:=evS (runFn fns2 (k + 1)) (.for_ [2] (.var 0) (.appo 1 (.comp 2 (.var 2) (.bool true) eAn) .nil) (.set00 1 (mkS [46]) (.frz 1 (.ret (.var 1))))) [.rv (.d (.list (((p :: row) :: rest).map listD))),oD [],.rv .un]) rfl ?_
 refine (e_for (is:=[2]) (b:=.appo 1 (.comp 2 (.var 2) (.bool true) eAn) .nil) (d0:=.list (((p :: row) :: rest).map listD)) (xs:=((p :: row) :: rest).map listD) rfl rfl e).trans ?_
 show (ownP (preL (mkS [46])) (oD (seL ((p :: row) :: rest)))).bind _ = _
 have e2:ownP (preL (mkS [46])) (oD (seL ((p :: row) :: rest))) = some ((anewL ((p :: row) :: rest)).map listD):=pre_due (p:=seP p) (row:=row.map seP) (rest:=seL rest) hpl
 rw [e2]; rfl
theorem sgn_mem (x:Int):sgn x ∈ sgL x:=by
 obtain ⟨j,ej,hj⟩:=fmod_nat x (show 0 < 10 by decide)
 have ej':x.fmod 10 = (j:Int):=ej
 have hl:j < (sgL x).length:=hj
 unfold sgn
 rw [ej',Int.toNat_natCast,List.getD_eq_getElem?_getD,List.getElem?_eq_getElem hl]
 exact List.getElem_mem hl
theorem sgn_all {P:Nat -> Prop} (x:Int) (h:∀ c ∈ [46,10,13,34,92,32,59,44,97],P c) (hb:∀ m < 4096,P (256 + m)):P (sgn x):=by
 obtain ⟨m,em,hm⟩:=fmod_nat (x.fdiv 20) (show 0 < 4096 by decide)
 have e:(256 + (x.fdiv 20).fmod 4096).toNat = 256 + m:=congrArg (fun z:Int => (256 + z).toNat) em
 rcases List.mem_append.mp (show sgn x ∈ [46,10,13,34,92,32,59,44,97] ++ [(256 + (x.fdiv 20).fmod 4096).toNat] from sgn_mem x) with q | q
 ·exact h _ q
 ·rw [List.mem_singleton.mp q,e]; exact hb m hm
theorem sgn_ok (x:Int):sgn x ≠ 61 /\ sgn x < 0x110000:=
 sgn_all (P:=fun c => c ≠ 61 /\ c < 0x110000) x (by decide) fun m hm => ⟨Nat.ne_of_gt (Nat.lt_of_lt_of_le (by decide) (Nat.le_add_right 256 m)),Nat.lt_trans (Nat.add_lt_add_left hm 256) (by decide)⟩
theorem pcOf_ok (x:Int):pcOk (pcOf x):=by
 intro h
 show ([sgn x] == [34] || ([sgn x] == [92] || ((x.fdiv 10).fmod 2 == 1))) = true
 have h':sgn x = 34 \/ sgn x = 92:=h
 rcases h' with h' | h' <;> rw [h'] <;> rfl
noncomputable def gpL:List (List Nat):=[[59],[10],[44,13],[32]]
noncomputable def gp (a:Int):List Nat:=gpL.getD ((a.fdiv 100).fmod 4).toNat []
theorem gp_at (a:Int):∃ j:Nat,(a.fdiv 100).fmod 4 = (j:Int) /\ gpL[j]? = some (gp a):=by
 obtain ⟨j,ej,hj⟩:=fmod_nat (a.fdiv 100) (show 0 < 4 by decide)
 have ej':(a.fdiv 100).fmod 4 = (j:Int):=ej
 have hl:j < gpL.length:=hj
 refine ⟨j,ej',?_⟩
 unfold gp
 rw [ej',Int.toNat_natCast,List.getD_eq_getElem?_getD,List.getElem?_eq_getElem hl]; rfl
theorem gp_ok (a:Int):gOk (gp a):=by
 obtain ⟨j,_,h⟩:=gp_at a
 have hm:=List.mem_of_getElem? h
 unfold gpL at hm
 simp only [List.mem_cons,List.not_mem_nil,or_false] at hm
 exact hm
noncomputable def wdOf (g:List Nat) (ch:Nat) (xs:List Int):Wd:=(g,ch,xs.map pcOf)
theorem wd_ok {g:List Nat} {ch:Nat} {xs:List Int} (hc:ch = 112 \/ ch = 113 \/ ch = 114) (hl:xs.length <= 4):wOk (wdOf g ch xs) /\ wB (wdOf g ch xs):=by
 have hm:∀ p ∈ xs.map pcOf,∃ x,p = pcOf x:=fun p m => by obtain ⟨x,_,e⟩:=List.mem_map.mp m; exact ⟨x,e.symm⟩
 have hlen:(xs.map pcOf).length <= 4:=by rw [List.length_map]; exact hl
 refine ⟨⟨hc,hlen,fun p m => ?_⟩,?_,hlen,fun p m => ?_⟩
 ·obtain ⟨x,rfl⟩:=hm p m; exact ⟨pcOf_ok x,(sgn_ok x).1⟩
 ·rcases hc with e | e | e <;> rw [show (wdOf g ch xs).2.1 = ch from rfl,e] <;> decide
 ·obtain ⟨x,rfl⟩:=hm p m; exact (sgn_ok x).2
theorem TX0 (w:Wd) (r:List Wd):TX 0 (w :: r) = w.1 ++ (xW w ++ TX 0 r):=by
 have e:kW 0 w = [46,w.2.1]:=by unfold kW dt; split <;> rfl
 show w.1 ++ (kW 0 w ++ 61 :: 34 :: (wr w.2.2 ++ 34 :: TX 0 r)) = _
 rw [e]
 unfold xW
 simp
noncomputable def eGp:E:=(.cons (.str (mkS [59])) (.cons (.str (mkS [10])) (.cons (.str (mkS [44,13])) (.cons (.str (mkS [32])) .nil))))
noncomputable def eNm:E:=(.idx (.var 3) (.bin .Mult (.int 4) (.var 6)))
noncomputable def eGap:E:=(.ite (.cmp .Gt (.var 6) (.int 0)) (.idx (.tup eGp) (.bin .Mod (.bin .FloorDiv eNm (.int 100)) (.int 4))) (.str (mkS [])))
noncomputable def eSl:E:=(.slc (.var 3) (.bin .Mult (.int 4) (.var 6)) (.bin .Add (.bin .Mult (.int 4) (.var 6)) (.int 4)))
noncomputable def eK:E:=(.bin .Add (.str (mkS [46])) (.idx (.str (mkS [112,113,114])) (.var 6)))
noncomputable def bW:Bk:=(.asg 7 eGap (.asg 8 (.call "_law_pieces" (.cons eSl .nil)) (.app 4 (.tup (.cons (.var 7) (.cons eK (.cons (.var 8) .nil)))) (.aug 5 .Add (.bin .Add (.var 7) (.call "_law_written" (.cons eK (.cons (.var 8) .nil)))) .nil))))
noncomputable def bS:Bk:=(.asg 10 (.call "split_header_words" (.cons (.lst (.cons (.var 5) .nil)) .nil)) (.frz 4 (.ite (.cmp .NotEq (.var 10) (.call "_law_reading" (.cons (.var 4) (.cons (.var 9) .nil)))) (.ret (.bool false)) .nil (.ite (.cmp .NotEq (.call "split_header_words" (.cons (.lst (.cons (.call "quotedata" (.cons (.call "join_header_words" (.cons (.var 10) .nil)) .nil)) .nil)) .nil)) (.call "_law_anew" (.cons (.var 10) .nil))) (.ret (.bool false)) .nil (.asg 5 (.call "quotedata" (.cons (.var 5) .nil)) .nil)))))
noncomputable def oW (ws:List Wd):Sl:=.own (ws.map fun w => .fz (wD w))
noncomputable def lwS (A B C:Sl) (N:List Int) (ws:Sl) (t:List Nat) (k g p s l:Sl):List Sl:=[A,B,C,.rv (.d (.list (N.map .int))),ws,.rv (.d (sx t)),k,g,p,s,l]
section
variable {k:Nat} {A B C x7 x8 x9 x10:Sl} {N:List Int}
theorem turnW {ws:List Wd} {t:List Nat} {i:Int} {xs:List Int} {ch:Nat} {g:List Nat} (hl:xs.length <= 4) (hg:g.length <= 2) (hc:ch = 112 \/ ch = 113 \/ ch = 114) (ht:t.length <= 1000) (hw:ws.length <= 100)
  (h1:∀ W t a b,evE (runFn fns2 (k + 1)) eGap (rvs (lwS A B C N W t (.rv (.d (.int i))) a b x9 x10)) = some (sx g))
  (h2:∀ W t a b,evE (runFn fns2 (k + 1)) eSl (rvs (lwS A B C N W t (.rv (.d (.int i))) a b x9 x10)) = some (.list (xs.map .int)))
  (h3:∀ W t a b,evE (runFn fns2 (k + 1)) eK (rvs (lwS A B C N W t (.rv (.d (.int i))) a b x9 x10)) = some (sx [46,ch])) :
  evS (runFn fns2 (k + 1)) bW (lwS A B C N (oW ws) t (.rv (.d (.int i))) x7 x8 x9 x10) = some (none,lwS A B C N (oW (ws ++ [wdOf g ch xs])) (t ++ (g ++ xW (wdOf g ch xs))) (.rv (.d (.int i))) (.rv (.d (sx g))) (.rv (.d (pcsD (xs.map pcOf)))) x9 x10):=by
 have hbig:big = 1000000:=rfl
 have hx:=xW_len (wd_ok (g:=g) hc hl).2
 have hlen:(xs.map pcOf).length <= 10:=by rw [List.length_map]; (omega)
 unfold bW
 refine (e_asg (h1 _ _ _ _)).trans ?_
 refine (e_asg (d:=pcsD (xs.map pcOf)) ((x_call1 (h2 (oW ws) t (.rv (.d (sx g))) x8)).trans (pieces2 k (by (omega))))).trans ?_
 refine (e_app (d:=wD (wdOf g ch xs)) (l:=ws.map fun w => .fz (wD w)) (x_tup (x_lc rfl (x_l2 (h3 (oW ws) t (.rv (.d (sx g))) (.rv (.d (pcsD (xs.map pcOf))))) rfl))) rfl (by rw [List.length_map]; lia)).trans ?_
 have e1:(ws.map fun w => Itm.fz (wD w)) ++ [.fz (wD (wdOf g ch xs))] = (ws ++ [wdOf g ch xs]).map fun w => Itm.fz (wD w):=by rw [List.map_append]; rfl
 show evS _ _ (lwS A B C N (.own ((ws.map fun w => Itm.fz (wD w)) ++ [.fz (wD (wdOf g ch xs))])) t (.rv (.d (.int i))) (.rv (.d (sx g))) (.rv (.d (pcsD (xs.map pcOf)))) x9 x10) = _
 rw [e1]
 refine (e_aug (x:=sx t) (y:=sx (g ++ xW (wdOf g ch xs))) (z:=sx (t ++ (g ++ xW (wdOf g ch xs)))) ?_ rfl rfl (add_str (by rw [List.length_append]; lia))).trans rfl
 exact x_bin (x:=sx g) (y:=sx (xW (wdOf g ch xs))) rfl ((x_call2 (x:=sx [46,ch]) (y:=pcsD (xs.map pcOf)) (h3 _ _ _ _) rfl).trans (written2 k (show 2 <= 10 by decide) hlen)) (add_str (by lia))
theorem dot_len2:∀ (l:List Nat) (f:Bool),(dotL f l).length <= 2 * l.length:=by
 intro l
 induction l with
 | nil => intro f; cases f <;> decide
 | cons c r ih =>
  intro f
  by_cases h:c = 46 /\ f = true
  ·rw [h.1,h.2,dotL_dot]; have:=ih false; simp only [List.length_cons]; lia
  ·have hk:c ≠ 46 \/ f = false:=by
    cases f with
    | false => exact .inr rfl
    | true => exact .inl fun q => h ⟨q,rfl⟩
   rw [dotL_keep _ hk]
   have:=ih (c == 10); simp only [List.length_cons]; lia
theorem sq_len4 (f:Bool) (l:List Nat):(sq f l).length <= 4 * l.length:=by
 have h1:=dot_len2 (eolL l) f
 have h2:=eolL_len l
 unfold sq; lia
theorem turnS {w:Wd} {r:List Wd} {W4:Sl} {n:Nat} (hn:n <= 2) (hr:r.length <= 2) (hw:wOk w /\ wB w) (h0:w.1 = []) (h:∀ w ∈ r,(wOk w /\ wB w) /\ gOk w.1) (h4:frzSl W4 = .rv (.d (.list ((w :: r).map wD)))) :
  evS (runFn fns2 (k + 2)) bS (lwS A B C N W4 (TX n (w :: r)) x7 x8 x9 (.rv (.d (.int n))) x10) = some (none,lwS A B C N (.rv (.d (.list ((w :: r).map wD)))) (TX (n + 1) (w :: r)) x7 x8 x9 (.rv (.d (.int n))) (.rv (.d (.list ((rdL n (w :: r)).map listD))))):=by
 have hgr:∀ w ∈ r,wOk w /\ gOk w.1:=fun z m => ⟨(h z m).1.1,(h z m).2⟩
 have rd:=all_reads (n:=n) hw.1 h0 hgr
 have g2:∀ g:List Nat,gOk g -> g.length <= 2:=fun g hg => by rcases hg with rfl | rfl | rfl | rfl <;> decide
 have ht:(TX n (w :: r)).length <= 156:=Nat.le_trans (TX_len (by lia) (w :: r) fun z m => by
  rcases List.mem_cons.mp m with rfl | m
  ·exact ⟨hw.1.2.1,by rw [h0]; decide⟩
  ·exact ⟨(h z m).1.1.2.1,g2 _ (h z m).2⟩) (by rw [List.length_cons]; lia)
 obtain ⟨Z,hZ⟩:=kW_hd (n:=n) (w:=w) (61 :: 34 :: (qs n (wr w.2.2) ++ 34 :: TX n r))
 have hT:TX n (w :: r) = 46 :: Z:=by
  have e:gS n w.1 = []:=by unfold gS; rw [h0]; split <;> rfl
  show gS n w.1 ++ _ = _
  rw [e]; exact hZ
 have hk:=rd.keys no_mem no_mem
 have hm:muL (rdL n (w :: r)) <= 2184:=by
  have:=rd.mu
  have e:muL ([]:List (List PV)) + mu [] = 0:=rfl
  lia
 have rd2:Reads' (46 :: Z) [] [] (rdL n (w :: r)):=hT ▸ rd
 have ra:=anew_reads rd2
 obtain ⟨a1,a2,_⟩:=all_len _ hk
 have hs4:=sq_len4 true (joinAll (rdL n (w :: r)))
 have hread:∀ y,evE (runFn fns2 (k + 2)) (.call "_law_reading" (.cons (.var 4) (.cons (.var 9) .nil))) (rvs (lwS A B C N (.rv (.d (.list ((w :: r).map wD)))) (TX n (w :: r)) x7 x8 x9 (.rv (.d (.int n))) y)) = some (.list ((rdL n (w :: r)).map listD)):=fun y =>
  (x_call2 (x:=.list ((w :: r).map wD)) (y:=.int n) rfl rfl).trans (reading2 k (by lia) (by rw [List.length_cons]; lia) fun z m => by
   rcases List.mem_cons.mp m with rfl | m
   ·exact ⟨hw.2,.inl h0⟩
   ·exact ⟨(h z m).1.2,.inr (h z m).2⟩)
 have hsent:=TX_sent n hw.1 h0 hgr
 obtain ⟨p,S,hf,_⟩:=rd2.head46
 generalize hL:rdL n (w :: r) = L at *
 unfold bS
 refine (e_asg (d:=.list (L.map listD)) ((x_call1 (x:=.list [sx (TX n (w :: r))]) rfl).trans (split2 k rd (by lia)))).trans ?_
 show evS (runFn fns2 (k + 2)) (.ite _ _ _ _) (lwS A B C N (frzSl W4) (TX n (w :: r)) x7 x8 x9 (.rv (.d (.int n))) (.rv (.d (.list (L.map listD))))) = _
 rw [h4]
 refine (e_skip (d:=.bool false) (x_cmp (x:=.list (L.map listD)) (y:=.list (L.map listD)) rfl (hread _) (by rw [ne_D,eqD_rows]; rfl)) rfl).trans ?_
 have hjoin:∀ ρ:List RV,evE (runFn fns2 (k + 2)) (.var 10) ρ = some (.list (L.map listD)) -> evE (runFn fns2 (k + 2)) (.call "split_header_words" (.cons (.lst (.cons (.call "quotedata" (.cons (.call "join_header_words" (.cons (.var 10) .nil)) .nil)) .nil)) .nil)) ρ = some (.list ((anewL L).map listD)):=fun ρ e =>
  (x_call1 (x:=.list [sx (sq true (joinAll L))]) (x_lst (x_l1 ((x_call1 ((x_call1 e).trans (join2 (k + 1) hk (by lia)))).trans (quote2 (k + 1) (by lia)))))).trans (split2 k ra (by lia))
 have hanew:∀ ρ:List RV,evE (runFn fns2 (k + 2)) (.var 10) ρ = some (.list (L.map listD)) -> evE (runFn fns2 (k + 2)) (.call "_law_anew" (.cons (.var 10) .nil)) ρ = some (.list ((anewL L).map listD)):=fun ρ e => by
  refine (x_call1 e).trans ?_
  cases L with
  | nil => cases hf
  | cons row rest => cases row with
   | nil => exact ((hk [] List.mem_cons_self).1 rfl).elim
   | cons p0 row => exact anew2 k (by lia) (by lia)
 refine (e_skip (d:=.bool false) (x_cmp (x:=.list ((anewL L).map listD)) (y:=.list ((anewL L).map listD)) (hjoin _ rfl) (hanew _ rfl) (by rw [ne_D,eqD_rows]; rfl)) rfl).trans ?_
 refine (e_asg (d:=sx (TX (n + 1) (w :: r))) ((x_call1 (x:=sx (TX n (w :: r))) rfl).trans ((quote2 (k + 1) (by lia)).trans (by rw [hsent])))).trans rfl
end
theorem run_law (k:Nat) (x:PyData):runFn fns2 (k + 1) "law" [.d x] = ((evS (runFn fns2 k) b2_law [.rv (.d x),.rv .un,.rv .un,.rv .un,.rv .un,.rv .un,.rv .un,.rv .un,.rv .un,.rv .un,.rv .un]).bind (·.1)):=by rfl
noncomputable def own12:List Int:=[8,11,0,7,102,1,0,10,213,2,10,4]
section
variable {F:Str -> List RV -> Option PyData}
theorem gap_eval {A B C W a b s l:Sl} {N:List Int} {t:List Nat} {i:Int} {z:Int} (hc:decide ((0:Int) < i) = true) (h:evE F eNm (rvs (lwS A B C N W t (.rv (.d (.int i))) a b s l)) = some (.int z)):evE F eGap (rvs (lwS A B C N W t (.rv (.d (.int i))) a b s l)) = some (sx (gp z)):=by
 refine x_ite (d:=.bool (decide ((0:Int) < i))) (x_cmp (x:=.int i) (y:=.int 0) rfl rfl rfl) ((if_pos (show truth (.bool (decide ((0:Int) < i))) = true from hc)).trans ?_)
 obtain ⟨j,ej,hj⟩:=gp_at z
 refine x_idx (x:=.tuple (gpL.map fun g => sx g)) (y:=.int ((z.fdiv 100).fmod 4)) rfl (x_bin (x:=.int (z.fdiv 100)) (y:=.int 4) (x_bin (x:=.int z) (y:=.int 100) h rfl (div_pos _ _ (by decide))) rfl (mod_pos _ _ (by decide))) ?_
 rw [ej]
 exact idx_tup (en:=fun g:List Nat => sx g) hj
end
theorem cut_mid {α:Type} (l:List α) {a b:Nat} (ha:a <= l.length) (hb:b <= l.length):cut l (some (a:Int)) (some (b:Int)) = (l.take b).drop a:=by
 unfold cut hiOf loOf nSl
 show (l.take (if (b:Int) < 0 then _ else min (b:Int).toNat l.length)).drop (if (a:Int) < 0 then _ else min (a:Int).toNat l.length) = _
 rw [if_neg (Int.not_lt.mpr (Int.natCast_nonneg b)),if_neg (Int.not_lt.mpr (Int.natCast_nonneg a)),Int.toNat_natCast,Int.toNat_natCast,Nat.min_eq_left ha,Nat.min_eq_left hb]
theorem lt3 {P:Nat -> Prop} {i:Nat} (h:i < 3) (h0:P 0) (h1:P 1) (h2:P 2):P i:=by
 cases i with
 | zero => exact h0
 | succ i => cases i with
  | zero => exact h1
  | succ i => cases i with
   | zero => exact h2
   | succ i => exact absurd h (Nat.not_lt.mpr (Nat.le_add_left 3 i))
noncomputable def gN (N:List Int) (i:Nat):List Nat:=if i = 0 then [] else gp (N.getD (4 * i) 0)
noncomputable def wN (N:List Int) (i:Nat):Wd:=wdOf (gN N i) (112 + i) ((N.take (4 * i + 4)).drop (4 * i))
noncomputable abbrev LZ:=List Wd × List Nat × Sl × Sl × Sl
noncomputable def lStep (N:List Int) (z:LZ) (i:Nat):LZ:=(z.1 ++ [wN N i],z.2.1 ++ (gN N i ++ xW (wN N i)),.rv (.d (.int (0 + (i:Int)))),.rv (.d (sx (gN N i))),.rv (.d (pcsD (((N.take (4 * i + 4)).drop (4 * i)).map pcOf))))
theorem gN_len (N:List Int) (i:Nat):(gN N i).length <= 2:=by
 unfold gN
 split
 ·exact Nat.zero_le 2
 ·rcases gp_ok (N.getD (4 * i) 0) with e | e | e | e <;> rw [e] <;> decide
theorem wN_ok {N:List Int} {i:Nat} (h:i < 3):wOk (wN N i) /\ wB (wN N i):=
 wd_ok (lt3 (P:=fun i => 112 + i = 112 \/ 112 + i = 113 \/ 112 + i = 114) h (.inl rfl) (.inr (.inl rfl)) (.inr (.inr rfl))) (by
  rw [List.length_drop,List.length_take]
  exact Nat.le_trans (Nat.sub_le_sub_right (Nat.min_le_left _ _) _) (Nat.le_of_eq (Nat.add_sub_cancel_left (4 * i) 4)))
section
variable {A B C x9 x10:Sl} {N:List Int} {k:Nat}
theorem lwords (hN:N.length = 12) (x6 x7 x8:Sl):forD (fun x σ => (bindT 1 x).bind fun tg => evS (runFn fns2 (k + 1)) bW (setAll σ [6] tg)) ((List.range 3).map fun i:Nat => .int (0 + (i:Int))) (lwS A B C N (oW []) [] x6 x7 x8 x9 x10) = some (none,lwS A B C N (oW ((List.range 3).map (wN N))) (TX 0 ((List.range 3).map (wN N))) (.rv (.d (.int (0 + ((2:Nat):Int))))) (.rv (.d (sx (gN N 2)))) (.rv (.d (pcsD (((N.take (4 * 2 + 4)).drop (4 * 2)).map pcOf)))) x9 x10):=by
 have hloop:=forD_acc (step:=fun x σ => (bindT 1 x).bind fun tg => evS (runFn fns2 (k + 1)) bW (setAll σ [6] tg)) (fun z:LZ => lwS A B C N (oW z.1) z.2.1 z.2.2.1 z.2.2.2.1 z.2.2.2.2 x9 x10) (fun i:Nat => .int (0 + (i:Int))) (lStep N)
  (fun z l => (∀ i ∈ l,i < 3) /\ z.1.length + l.length <= 3 /\ z.2.1.length <= 30 * z.1.length) (fun z i r ⟨h1,h2,h3⟩ => by
   have hi:=h1 i List.mem_cons_self
   rw [List.length_cons] at h2
   have hle:4 * i + 4 <= N.length:=hN ▸ lt3 (P:=fun i => 4 * i + 4 <= 12) hi (by decide) (by decide) (by decide)
   have hx:=xW_len (wN_ok (N:=N) hi).2
   have hg:=gN_len N i
   have em:binD .Mult (.int 4) (.int (0 + (i:Int))) = some (.int ((4 * i:Nat):Int)):=lt3 (P:=fun i => binD .Mult (.int 4) (.int (0 + (i:Int))) = some (.int ((4 * i:Nat):Int))) hi rfl rfl rfl
   have e4:∀ W t a b,evE (runFn fns2 (k + 1)) (.bin .Mult (.int 4) (.var 6)) (rvs (lwS A B C N W t (.rv (.d (.int (0 + (i:Int))))) a b x9 x10)) = some (.int ((4 * i:Nat):Int)):=fun W t a b => x_bin (x:=.int 4) (y:=.int (0 + (i:Int))) rfl rfl em
   refine ⟨turnW (xs:=(N.take (4 * i + 4)).drop (4 * i)) (ch:=112 + i) (g:=gN N i) ?_ hg ?_ (by lia) (by lia) (fun W t a b => ?_) (fun W t a b => ?_) fun W t a b => ?_,fun j m => h1 j (List.mem_cons_of_mem _ m),?_,?_⟩
   ·rw [List.length_drop,List.length_take]
    exact Nat.le_trans (Nat.sub_le_sub_right (Nat.min_le_left _ _) _) (Nat.le_of_eq (Nat.add_sub_cancel_left (4 * i) 4))
   ·exact lt3 (P:=fun i => 112 + i = 112 \/ 112 + i = 113 \/ 112 + i = 114) hi (.inl rfl) (.inr (.inl rfl)) (.inr (.inr rfl))
   ·unfold gN
    by_cases h0:i = 0
    ·rw [if_pos h0,h0]; rfl
    ·rw [if_neg h0]
     refine gap_eval (z:=N.getD (4 * i) 0) (decide_eq_true (by (first | lia | omega))) (x_idx (x:=.list (N.map .int)) (y:=.int ((4 * i:Nat):Int)) rfl (e4 W t a b) ?_)
     have h4:N[4 * i]? = some (N.getD (4 * i) 0):=by rw [List.getD_eq_getElem?_getD,List.getElem?_eq_getElem (Nat.lt_of_lt_of_le (by (first | lia | omega):4 * i < 4 * i + 4) hle)]; rfl
     have:=idx_nat (en:=PyData.int) h4
     rwa [Int.zero_add] at this
   ·refine x_slc (x:=.list (N.map .int)) (l:=some ((4 * i:Nat):Int)) (h:=some ((4 * i + 4:Nat):Int)) rfl (by rw [e4]; rfl) ?_ ?_
    ·rw [show evE (runFn fns2 (k + 1)) (.bin .Add (.bin .Mult (.int 4) (.var 6)) (.int 4)) (rvs (lwS A B C N W t (.rv (.d (.int (0 + (i:Int))))) a b x9 x10)) = some (.int ((4 * i + 4:Nat):Int)) from x_bin (x:=.int ((4 * i:Nat):Int)) (y:=.int 4) (e4 W t a b) rfl rfl]; rfl
    ·show some (PyData.list (cut (N.map .int) (some ((4 * i:Nat):Int)) (some ((4 * i + 4:Nat):Int)))) = _
     rw [cut_mid _ (by rw [List.length_map]; (first | lia | omega)) (by rw [List.length_map]; exact hle),<- List.map_take,<- List.map_drop]
   ·exact x_bin (x:=sx [46]) (y:=sx [112 + i]) rfl (x_idx (x:=sx [112,113,114]) (y:=.int (0 + (i:Int))) rfl rfl (lt3 (P:=fun i => idxD (sx [112,113,114]) (.int (0 + (i:Int))) = some (sx [112 + i])) hi rfl rfl rfl)) rfl
   ·show (z.1 ++ [wN N i]).length + r.length <= 3
    rw [List.length_append]; show z.1.length + 1 + r.length <= 3; (first | lia | omega)
   ·show (z.2.1 ++ (gN N i ++ xW (wN N i))).length <= 30 * (z.1 ++ [wN N i]).length
    rw [List.length_append,List.length_append,List.length_append]; show _ <= 30 * (z.1.length + 1); (first | lia | omega)) (List.range 3) ([],[],x6,x7,x8) ⟨fun i m => List.mem_range.mp m,Nat.le_refl 3,Nat.le_refl 0⟩
 refine Eq.trans hloop ?_
 have eT:[] ++ (gN N 0 ++ xW (wN N 0)) ++ (gN N 1 ++ xW (wN N 1)) ++ (gN N 2 ++ xW (wN N 2)) = TX 0 [wN N 0,wN N 1,wN N 2]:=by
  rw [TX0,TX0,TX0,List.nil_append,List.append_assoc,List.append_assoc,List.append_assoc]
  show _ = gN N 0 ++ (xW (wN N 0) ++ (gN N 1 ++ (xW (wN N 1) ++ (gN N 2 ++ (xW (wN N 2) ++ [])))))
  rw [List.append_nil]
 show some (none,lwS A B C N (oW [wN N 0,wN N 1,wN N 2]) ([] ++ (gN N 0 ++ xW (wN N 0)) ++ (gN N 1 ++ xW (wN N 1)) ++ (gN N 2 ++ xW (wN N 2))) _ _ _ x9 x10) = _
 rw [eT]; rfl
theorem lsends {w:Wd} {r:List Wd} {x6 x7 x8:Sl} (hr:r.length <= 2) (hw:wOk w /\ wB w) (h0:w.1 = []) (h:∀ w ∈ r,(wOk w /\ wB w) /\ gOk w.1):∃ σ,forD (fun x σ => (bindT 1 x).bind fun tg => evS (runFn fns2 (k + 2)) bS (setAll σ [9] tg)) ((List.range 3).map fun i:Nat => .int (0 + (i:Int))) (lwS A B C N (oW (w :: r)) (TX 0 (w :: r)) x6 x7 x8 x9 x10) = some (none,σ):=by
 have e0:frzSl (oW (w :: r)) = .rv (.d (.list ((w :: r).map wD))):=by
  show Sl.rv (.d (.list (((w :: r).map fun w => Itm.fz (wD w)).map itmD))) = _
  rw [List.map_map]; rfl
 have t0:=turnS (k:=k) (A:=A) (B:=B) (C:=C) (N:=N) (x7:=x6) (x8:=x7) (x9:=x8) (x10:=x10) (n:=0) (by decide) hr hw h0 h e0
 have t1:=fun y => turnS (k:=k) (A:=A) (B:=B) (C:=C) (N:=N) (x7:=x6) (x8:=x7) (x9:=x8) (x10:=y) (W4:=.rv (.d (.list ((w :: r).map wD)))) (n:=1) (by decide) hr hw h0 h rfl
 have t2:=fun y => turnS (k:=k) (A:=A) (B:=B) (C:=C) (N:=N) (x7:=x6) (x8:=x7) (x9:=x8) (x10:=y) (W4:=.rv (.d (.list ((w :: r).map wD)))) (n:=2) (by decide) hr hw h0 h rfl
 have st:∀ {step:PyData -> List Sl -> Option Fl} {x:PyData} {xs:List PyData} {σ σ':List Sl},step x σ = some (none,σ') -> forD step (x :: xs) σ = forD step xs σ':=fun h => by rw [forD,h]; rfl
 exact ⟨_,(st t0).trans ((st (t1 _)).trans ((st (t2 _)).trans rfl))⟩
end
theorem law2_plain (ns:List Int) (hns:ns.length <= 63):runFn fns2 20 "law" [.d (.list (ns.map .int))] = some (.bool true):=by
 refine (run_law 19 _).trans ?_
 suffices h:∃ σ,evS (runFn fns2 19) b2_law [.rv (.d (.list (ns.map .int))),.rv .un,.rv .un,.rv .un,.rv .un,.rv .un,.rv .un,.rv .un,.rv .un,.rv .un,.rv .un] = some (some (.bool true),σ) from h.elim fun σ e => ret_run e
 have hl12:(ns.take 12).length <= 12:=by rw [List.length_take]; exact Nat.min_le_left _ _
 generalize hA:PyData.list (ns.map .int) = dA
 have e1:evE (runFn fns2 19) (.lst (.cons (.int 8) (.cons (.int 11) (.cons (.int 0) (.cons (.int 7) (.cons (.int 102) (.cons (.int 1) (.cons (.int 0) (.cons (.int 10) (.cons (.int 213) (.cons (.int 2) (.cons (.int 10) (.cons (.int 4) .nil))))))))))))) (rvs [.rv (.d dA),.rv .un,.rv .un,.rv .un,.rv .un,.rv .un,.rv .un,.rv .un,.rv .un,.rv .un,.rv .un]) = some (.list (own12.map .int)):=rfl
 generalize hB:PyData.list (own12.map .int) = dB at e1
 have e2:evE (runFn fns2 19) (.comp 1 (.slc (.var 0) .none (.int 12)) (.bool true) (.bin .Mod (.var 0) (.int 1000000))) (rvs [.rv (.d dA),.rv (.d dB),.rv .un,.rv .un,.rv .un,.rv .un,.rv .un,.rv .un,.rv .un,.rv .un,.rv .un]) = some (.list ((ns.take 12).map fun n => .int (n.fmod 1000000))):=by
  refine x_comp (d0:=.list ((ns.take 12).map .int)) (zs:=ns.take 12) (en:=.int) ?_ rfl fun z m => x_bin (x:=.int z) (y:=.int 1000000) rfl rfl (mod_pos _ _ (by decide))
  rw [<- hA]
  show some (PyData.list (cut (ns.map .int) none (some ((12:Nat):Int)))) = _
  rw [cut_take,List.map_take]
 generalize hC:PyData.list ((ns.take 12).map fun n => .int (n.fmod 1000000)) = dC at e2
 have e3:evE (runFn fns2 19) (.bin .Add (.var 2) (.slc (.var 1) (.len (.var 2)) .none)) (rvs [.rv (.d dA),.rv (.d dB),.rv (.d dC),.rv .un,.rv .un,.rv .un,.rv .un,.rv .un,.rv .un,.rv .un,.rv .un]) = some (.list ((nums own12 1000000 ns 12).map .int)):=by
  refine x_bin (x:=.list ((ns.take 12).map fun n => .int (n.fmod 1000000))) (y:=.list ((own12.drop (ns.take 12).length).map .int)) (by rw [<- hC]; rfl) ?_ ?_
  ·rw [<- hB,<- hC]
   show some (PyData.list (cut (own12.map .int) (some (((ns.take 12).map fun n => PyData.int (n.fmod 1000000)).length:Int)) none)) = _
   rw [List.length_map,cut_drop _ _ (by exact hl12),List.map_drop]
  ·refine (add_list ?_).trans ?_
   ·rw [List.length_map,List.length_map,List.length_drop]
    exact Nat.le_trans (Nat.add_le_add hl12 (Nat.sub_le _ _)) (show 12 + 12 <= 1000000 by decide)
   ·unfold nums
    rw [List.map_append,List.map_map,List.length_map]; rfl
 have hN12:=nums_len own12 1000000 ns 12 rfl
 generalize nums own12 1000000 ns 12 = N at e3 hN12
 have hgo:∀ w ∈ [wN N 1,wN N 2],(wOk w /\ wB w) /\ gOk w.1:=fun w m => by
  rcases List.mem_cons.mp m with rfl | m
  ·exact ⟨wN_ok (by decide),gp_ok _⟩
  ·rw [List.mem_singleton.mp m]; exact ⟨wN_ok (by decide),gp_ok _⟩
 have f1:=lwords (A:=.rv (.d dA)) (B:=.rv (.d dB)) (C:=.rv (.d dC)) (x9:=.rv .un) (x10:=.rv .un) (k:=18) hN12 (.rv .un) (.rv .un) (.rv .un)
 obtain ⟨σ,f2⟩:=lsends (A:=.rv (.d dA)) (B:=.rv (.d dB)) (C:=.rv (.d dC)) (x9:=.rv .un) (x10:=.rv .un) (N:=N) (k:=17) (x6:=.rv (.d (.int (0 + ((2:Nat):Int))))) (x7:=.rv (.d (sx (gN N 2)))) (x8:=.rv (.d (pcsD (((N.take (4 * 2 + 4)).drop (4 * 2)).map pcOf)))) (w:=wN N 0) (r:=[wN N 1,wN N 2]) (Nat.le_refl 2) (wN_ok (N:=N) (by decide)) rfl hgo
 refine ⟨σ,(e_asg e1).trans ((e_asg e2).trans ((e_asg e3).trans ?_))⟩
 refine Eq.trans (b:=evS (runFn fns2 19) (.for_ [6] (.rng (.int 3)) bW (.for_ [9] (.rng (.int 3)) bS (.ret (.bool true)))) (lwS (.rv (.d dA)) (.rv (.d dB)) (.rv (.d dC)) N (oW []) [] (.rv .un) (.rv .un) (.rv .un) (.rv .un) (.rv .un))) rfl ?_
 exact (e_for (is:=[6]) (b:=bW) (d0:=.list ((List.range 3).map fun i:Nat => .int (0 + (i:Int)))) rfl rfl f1).trans ((e_for (is:=[9]) (b:=bS) (d0:=.list ((List.range 3).map fun i:Nat => .int (0 + (i:Int)))) rfl rfl f2).trans rfl)
end Mine
end
theorem PySem.Challenge.cw_rl0043_02_holds : PySem.Challenge.rw_rl0043_02.Holds :=
  Mine.head2 Mine.law2_plain
