import PyProof.Rows.All
import Wide.All
import OpenK.AllK
import Wide.FinOn
import Lean
import KE.IntBitsLaws
import KE.BitLaws
import PySem.Builtin.Int.W1All
import PyProof.StrCalls6
import PySem.Syntax
import KE.KSortTup
import PySem.Challenge.RW_rs0223_02

set_option Elab.async false
set_option autoImplicit false
set_option linter.unusedVariables false
set_option linter.unusedSectionVars false
set_option genSizeOf false
set_option genSizeOfSpec false
set_option genInjectivity false
set_option bootstrap.genMatcherCode false
noncomputable section
namespace Mine.Internal
theorem xA {A0:Prop}{A1:Prop}{P:Prop} (h:A0∧A1) (k:A0→A1→P):P:=h.elim λh0 h=>k h0 h
theorem xE {α0:Sort _}{A0:α0→Prop}{P:Prop} (h:∃x0,A0 x0) (k:∀x0,A0 x0→P):P:=h.elim λx0 h=>k x0 h
theorem xAA {A0:Prop}{A1:Prop}{A2:Prop}{P:Prop} (h:A0∧A1∧A2) (k:A0→A1→A2→P):P:=h.elim λh0 h=>h.elim λh1 h=>k h0 h1 h
theorem xAE {α0:Sort _}{A0:Prop}{A1:α0→Prop}{P:Prop} (h:A0∧∃x0,A1 x0) (k:A0→∀x0,A1 x0→P):P:=h.elim λh0 h=>h.elim λx0 h=>k h0 x0 h
theorem xEA {α0:Sort _}{A0:α0→Prop}{A1:α0→Prop}{P:Prop} (h:∃x0,A0 x0∧A1 x0) (k:∀x0,A0 x0→A1 x0→P):P:=h.elim λx0 h=>h.elim λh0 h=>k x0 h0 h
theorem xEE {α0 α1:Sort _}{A0:α0→α1→Prop}{P:Prop} (h:∃x0,∃x1,A0 x0 x1) (k:∀x0,∀x1,A0 x0 x1→P):P:=h.elim λx0 h=>h.elim λx1 h=>k x0 x1 h
theorem zeR {A0:Prop}{A1:Prop}{A2:Prop}{A3:Prop}{P:Prop} (h:A0∧A1∧A2∧A3) (k:A0→A1→A2→A3→P):P:=h.elim λh0 h=>h.elim λh1 h=>h.elim λh2 h=>k h0 h1 h2 h
theorem zvg {α0:Sort _}{A0:Prop}{A1:α0→Prop}{A2:α0→Prop}{P:Prop} (h:A0∧∃x0,A1 x0∧A2 x0) (k:A0→∀x0,A1 x0→A2 x0→P):P:=h.elim λh0 h=>h.elim λx0 h=>h.elim λh1 h=>k h0 x0 h1 h
theorem zmn {α0 α1:Sort _}{A0:Prop}{A1:α0→α1→Prop}{P:Prop} (h:A0∧∃x0,∃x1,A1 x0 x1) (k:A0→∀x0,∀x1,A1 x0 x1→P):P:=h.elim λh0 h=>h.elim λx0 h=>h.elim λx1 h=>k h0 x0 x1 h
theorem zdx {α0:Sort _}{A0:α0→Prop}{A1:α0→Prop}{A2:α0→Prop}{P:Prop} (h:∃x0,A0 x0∧A1 x0∧A2 x0) (k:∀x0,A0 x0→A1 x0→A2 x0→P):P:=h.elim λx0 h=>h.elim λh0 h=>h.elim λh1 h=>k x0 h0 h1 h
theorem zvD {α0 α1:Sort _}{A0:α0→Prop}{A1:α0→α1→Prop}{P:Prop} (h:∃x0,A0 x0∧∃x1,A1 x0 x1) (k:∀x0,A0 x0→∀x1,A1 x0 x1→P):P:=h.elim λx0 h=>h.elim λh0 h=>h.elim λx1 h=>k x0 h0 x1 h
theorem zav {α0 α1:Sort _}{A0:α0→α1→Prop}{A1:α0→α1→Prop}{P:Prop} (h:∃x0,∃x1,A0 x0 x1∧A1 x0 x1) (k:∀x0,∀x1,A0 x0 x1→A1 x0 x1→P):P:=h.elim λx0 h=>h.elim λx1 h=>h.elim λh0 h=>k x0 x1 h0 h
theorem xEEE {α0 α1 α2:Sort _}{A0:α0→α1→α2→Prop}{P:Prop} (h:∃x0,∃x1,∃x2,A0 x0 x1 x2) (k:∀x0,∀x1,∀x2,A0 x0 x1 x2→P):P:=h.elim λx0 h=>h.elim λx1 h=>h.elim λx2 h=>k x0 x1 x2 h
theorem zka {A0:Prop}{A1:Prop}{A2:Prop}{A3:Prop}{A4:Prop}{P:Prop} (h:A0∧A1∧A2∧A3∧A4) (k:A0→A1→A2→A3→A4→P):P:=h.elim λh0 h=>h.elim λh1 h=>h.elim λh2 h=>h.elim λh3 h=>k h0 h1 h2 h3 h
theorem zvH {α0 α1:Sort _}{A0:Prop}{A1:Prop}{A2:α0→α1→Prop}{P:Prop} (h:A0∧A1∧∃x0,∃x1,A2 x0 x1) (k:A0→A1→∀x0,∀x1,A2 x0 x1→P):P:=h.elim λh0 h=>h.elim λh1 h=>h.elim λx0 h=>h.elim λx1 h=>k h0 h1 x0 x1 h
theorem zvG {α0:Sort _}{A0:Prop}{A1:α0→Prop}{A2:α0→Prop}{A3:α0→Prop}{P:Prop} (h:A0∧∃x0,A1 x0∧A2 x0∧A3 x0) (k:A0→∀x0,A1 x0→A2 x0→A3 x0→P):P:=h.elim λh0 h=>h.elim λx0 h=>h.elim λh1 h=>h.elim λh2 h=>k h0 x0 h1 h2 h
theorem zvF {α0 α1:Sort _}{A0:Prop}{A1:α0→Prop}{A2:α0→α1→Prop}{P:Prop} (h:A0∧∃x0,A1 x0∧∃x1,A2 x0 x1) (k:A0→∀x0,A1 x0→∀x1,A2 x0 x1→P):P:=h.elim λh0 h=>h.elim λx0 h=>h.elim λh1 h=>h.elim λx1 h=>k h0 x0 h1 x1 h
theorem zrI {α0:Sort _}{A0:α0→Prop}{A1:α0→Prop}{A2:α0→Prop}{A3:α0→Prop}{P:Prop} (h:∃x0,A0 x0∧A1 x0∧A2 x0∧A3 x0) (k:∀x0,A0 x0→A1 x0→A2 x0→A3 x0→P):P:=h.elim λx0 h=>h.elim λh0 h=>h.elim λh1 h=>h.elim λh2 h=>k x0 h0 h1 h2 h
theorem zrH {α0 α1:Sort _}{A0:α0→Prop}{A1:α0→Prop}{A2:α0→α1→Prop}{P:Prop} (h:∃x0,A0 x0∧A1 x0∧∃x1,A2 x0 x1) (k:∀x0,A0 x0→A1 x0→∀x1,A2 x0 x1→P):P:=h.elim λx0 h=>h.elim λh0 h=>h.elim λh1 h=>h.elim λx1 h=>k x0 h0 h1 x1 h
theorem zvC {α0 α1:Sort _}{A0:α0→Prop}{A1:α0→α1→Prop}{A2:α0→α1→Prop}{P:Prop} (h:∃x0,A0 x0∧∃x1,A1 x0 x1∧A2 x0 x1) (k:∀x0,A0 x0→∀x1,A1 x0 x1→A2 x0 x1→P):P:=h.elim λx0 h=>h.elim λh0 h=>h.elim λx1 h=>h.elim λh1 h=>k x0 h0 x1 h1 h
theorem zbb {α0 α1:Sort _}{A0:α0→α1→Prop}{A1:α0→α1→Prop}{A2:α0→α1→Prop}{P:Prop} (h:∃x0,∃x1,A0 x0 x1∧A1 x0 x1∧A2 x0 x1) (k:∀x0,∀x1,A0 x0 x1→A1 x0 x1→A2 x0 x1→P):P:=h.elim λx0 h=>h.elim λx1 h=>h.elim λh0 h=>h.elim λh1 h=>k x0 x1 h0 h1 h
theorem zaA {α0 α1 α2:Sort _}{A0:α0→α1→α2→Prop}{A1:α0→α1→α2→Prop}{P:Prop} (h:∃x0,∃x1,∃x2,A0 x0 x1 x2∧A1 x0 x1 x2) (k:∀x0,∀x1,∀x2,A0 x0 x1 x2→A1 x0 x1 x2→P):P:=h.elim λx0 h=>h.elim λx1 h=>h.elim λx2 h=>h.elim λh0 h=>k x0 x1 x2 h0 h
theorem zjW {α0:Sort _}{A0:α0→Prop}{A1:α0→Prop}{A2:α0→Prop}{A3:α0→Prop}{A4:α0→Prop}{P:Prop} (h:∃x0,A0 x0∧A1 x0∧A2 x0∧A3 x0∧A4 x0) (k:∀x0,A0 x0→A1 x0→A2 x0→A3 x0→A4 x0→P):P:=h.elim λx0 h=>h.elim λh0 h=>h.elim λh1 h=>h.elim λh2 h=>h.elim λh3 h=>k x0 h0 h1 h2 h3 h
theorem zrG {α0 α1 α2:Sort _}{A0:α0→Prop}{A1:α0→Prop}{A2:α0→α1→α2→Prop}{P:Prop} (h:∃x0,A0 x0∧A1 x0∧∃x1,∃x2,A2 x0 x1 x2) (k:∀x0,A0 x0→A1 x0→∀x1,∀x2,A2 x0 x1 x2→P):P:=h.elim λx0 h=>h.elim λh0 h=>h.elim λh1 h=>h.elim λx1 h=>h.elim λx2 h=>k x0 h0 h1 x1 x2 h
theorem zar {α0 α1:Sort _}{A0:α0→α1→Prop}{A1:α0→α1→Prop}{A2:α0→α1→Prop}{A3:α0→α1→Prop}{P:Prop} (h:∃x0,∃x1,A0 x0 x1∧A1 x0 x1∧A2 x0 x1∧A3 x0 x1) (k:∀x0,∀x1,A0 x0 x1→A1 x0 x1→A2 x0 x1→A3 x0 x1→P):P:=h.elim λx0 h=>h.elim λx1 h=>h.elim λh0 h=>h.elim λh1 h=>h.elim λh2 h=>k x0 x1 h0 h1 h2 h
theorem zcb {α0 α1 α2:Sort _}{A0:α0→α1→α2→Prop}{A1:α0→α1→α2→Prop}{A2:α0→α1→α2→Prop}{P:Prop} (h:∃x0,∃x1,∃x2,A0 x0 x1 x2∧A1 x0 x1 x2∧A2 x0 x1 x2) (k:∀x0,∀x1,∀x2,A0 x0 x1 x2→A1 x0 x1 x2→A2 x0 x1 x2→P):P:=h.elim λx0 h=>h.elim λx1 h=>h.elim λx2 h=>h.elim λh0 h=>h.elim λh1 h=>k x0 x1 x2 h0 h1 h
theorem zaI {α0 α1 α2 α3:Sort _}{A0:α0→α1→α2→α3→Prop}{A1:α0→α1→α2→α3→Prop}{P:Prop} (h:∃x0,∃x1,∃x2,∃x3,A0 x0 x1 x2 x3∧A1 x0 x1 x2 x3) (k:∀x0,∀x1,∀x2,∀x3,A0 x0 x1 x2 x3→A1 x0 x1 x2 x3→P):P:=h.elim λx0 h=>h.elim λx1 h=>h.elim λx2 h=>h.elim λx3 h=>h.elim λh0 h=>k x0 x1 x2 x3 h0 h
theorem zpa {α0 α1 α2:Sort _}{A0:α0→Prop}{A1:α0→α1→α2→Prop}{A2:α0→α1→α2→Prop}{A3:α0→α1→α2→Prop}{P:Prop} (h:∃x0,A0 x0∧∃x1,∃x2,A1 x0 x1 x2∧A2 x0 x1 x2∧A3 x0 x1 x2) (k:∀x0,A0 x0→∀x1,∀x2,A1 x0 x1 x2→A2 x0 x1 x2→A3 x0 x1 x2→P):P:=h.elim λx0 h=>h.elim λh0 h=>h.elim λx1 h=>h.elim λx2 h=>h.elim λh1 h=>h.elim λh2 h=>k x0 h0 x1 x2 h1 h2 h
theorem zbr {α0 α1 α2:Sort _}{A0:α0→α1→α2→Prop}{A1:α0→α1→α2→Prop}{A2:α0→α1→α2→Prop}{A3:α0→α1→α2→Prop}{P:Prop} (h:∃x0,∃x1,∃x2,A0 x0 x1 x2∧A1 x0 x1 x2∧A2 x0 x1 x2∧A3 x0 x1 x2) (k:∀x0,∀x1,∀x2,A0 x0 x1 x2→A1 x0 x1 x2→A2 x0 x1 x2→A3 x0 x1 x2→P):P:=h.elim λx0 h=>h.elim λx1 h=>h.elim λx2 h=>h.elim λh0 h=>h.elim λh1 h=>h.elim λh2 h=>k x0 x1 x2 h0 h1 h2 h
theorem zbq {α0 α1 α2 α3:Sort _}{A0:α0→α1→α2→α3→Prop}{A1:α0→α1→α2→α3→Prop}{A2:α0→α1→α2→α3→Prop}{P:Prop} (h:∃x0,∃x1,∃x2,∃x3,A0 x0 x1 x2 x3∧A1 x0 x1 x2 x3∧A2 x0 x1 x2 x3) (k:∀x0,∀x1,∀x2,∀x3,A0 x0 x1 x2 x3→A1 x0 x1 x2 x3→A2 x0 x1 x2 x3→P):P:=h.elim λx0 h=>h.elim λx1 h=>h.elim λx2 h=>h.elim λx3 h=>h.elim λh0 h=>h.elim λh1 h=>k x0 x1 x2 x3 h0 h1 h
theorem zmv {α0 α1 α2:Sort _}{A0:α0→Prop}{A1:α0→α1→Prop}{A2:α0→α1→Prop}{A3:α0→α1→Prop}{A4:α0→α1→α2→Prop}{P:Prop} (h:∃x0,A0 x0∧∃x1,A1 x0 x1∧A2 x0 x1∧A3 x0 x1∧∃x2,A4 x0 x1 x2) (k:∀x0,A0 x0→∀x1,A1 x0 x1→A2 x0 x1→A3 x0 x1→∀x2,A4 x0 x1 x2→P):P:=h.elim λx0 h=>h.elim λh0 h=>h.elim λx1 h=>h.elim λh1 h=>h.elim λh2 h=>h.elim λh3 h=>h.elim λx2 h=>k x0 h0 x1 h1 h2 h3 x2 h
theorem zcv {α0 α1 α2:Sort _}{A0:α0→Prop}{A1:α0→α1→α2→Prop}{A2:α0→α1→α2→Prop}{A3:α0→α1→α2→Prop}{A4:α0→α1→α2→Prop}{P:Prop} (h:∃x0,A0 x0∧∃x1,∃x2,A1 x0 x1 x2∧A2 x0 x1 x2∧A3 x0 x1 x2∧A4 x0 x1 x2) (k:∀x0,A0 x0→∀x1,∀x2,A1 x0 x1 x2→A2 x0 x1 x2→A3 x0 x1 x2→A4 x0 x1 x2→P):P:=h.elim λx0 h=>h.elim λh0 h=>h.elim λx1 h=>h.elim λx2 h=>h.elim λh1 h=>h.elim λh2 h=>h.elim λh3 h=>k x0 h0 x1 x2 h1 h2 h3 h
theorem zbT {α0 α1:Sort _}{A0:α0→α1→Prop}{A1:α0→α1→Prop}{A2:α0→α1→Prop}{A3:α0→α1→Prop}{A4:α0→α1→Prop}{A5:α0→α1→Prop}{P:Prop} (h:∃x0,∃x1,A0 x0 x1∧A1 x0 x1∧A2 x0 x1∧A3 x0 x1∧A4 x0 x1∧A5 x0 x1) (k:∀x0,∀x1,A0 x0 x1→A1 x0 x1→A2 x0 x1→A3 x0 x1→A4 x0 x1→A5 x0 x1→P):P:=h.elim λx0 h=>h.elim λx1 h=>h.elim λh0 h=>h.elim λh1 h=>h.elim λh2 h=>h.elim λh3 h=>h.elim λh4 h=>k x0 x1 h0 h1 h2 h3 h4 h
theorem zhS {α0 α1 α2:Sort _}{A0:α0→α1→α2→Prop}{A1:α0→α1→α2→Prop}{A2:α0→α1→α2→Prop}{A3:α0→α1→α2→Prop}{A4:α0→α1→α2→Prop}{P:Prop} (h:∃x0,∃x1,∃x2,A0 x0 x1 x2∧A1 x0 x1 x2∧A2 x0 x1 x2∧A3 x0 x1 x2∧A4 x0 x1 x2) (k:∀x0,∀x1,∀x2,A0 x0 x1 x2→A1 x0 x1 x2→A2 x0 x1 x2→A3 x0 x1 x2→A4 x0 x1 x2→P):P:=h.elim λx0 h=>h.elim λx1 h=>h.elim λx2 h=>h.elim λh0 h=>h.elim λh1 h=>h.elim λh2 h=>h.elim λh3 h=>k x0 x1 x2 h0 h1 h2 h3 h
theorem zfx {α0 α1 α2 α3:Sort _}{A0:α0→α1→α2→α3→Prop}{A1:α0→α1→α2→α3→Prop}{A2:α0→α1→α2→α3→Prop}{A3:α0→α1→α2→α3→Prop}{P:Prop} (h:∃x0,∃x1,∃x2,∃x3,A0 x0 x1 x2 x3∧A1 x0 x1 x2 x3∧A2 x0 x1 x2 x3∧A3 x0 x1 x2 x3) (k:∀x0,∀x1,∀x2,∀x3,A0 x0 x1 x2 x3→A1 x0 x1 x2 x3→A2 x0 x1 x2 x3→A3 x0 x1 x2 x3→P):P:=h.elim λx0 h=>h.elim λx1 h=>h.elim λx2 h=>h.elim λx3 h=>h.elim λh0 h=>h.elim λh1 h=>h.elim λh2 h=>k x0 x1 x2 x3 h0 h1 h2 h
theorem zfw {α0 α1 α2 α3 α4:Sort _}{A0:α0→α1→α2→α3→α4→Prop}{A1:α0→α1→α2→α3→α4→Prop}{A2:α0→α1→α2→α3→α4→Prop}{P:Prop} (h:∃x0,∃x1,∃x2,∃x3,∃x4,A0 x0 x1 x2 x3 x4∧A1 x0 x1 x2 x3 x4∧A2 x0 x1 x2 x3 x4) (k:∀x0,∀x1,∀x2,∀x3,∀x4,A0 x0 x1 x2 x3 x4→A1 x0 x1 x2 x3 x4→A2 x0 x1 x2 x3 x4→P):P:=h.elim λx0 h=>h.elim λx1 h=>h.elim λx2 h=>h.elim λx3 h=>h.elim λx4 h=>h.elim λh0 h=>h.elim λh1 h=>k x0 x1 x2 x3 x4 h0 h1 h
theorem zdQ {α0 α1:Sort _}{A0:α0→α1→Prop}{A1:α0→α1→Prop}{A2:α0→α1→Prop}{A3:α0→α1→Prop}{A4:α0→α1→Prop}{A5:α0→α1→Prop}{A6:α0→α1→Prop}{P:Prop} (h:∃x0,∃x1,A0 x0 x1∧A1 x0 x1∧A2 x0 x1∧A3 x0 x1∧A4 x0 x1∧A5 x0 x1∧A6 x0 x1) (k:∀x0,∀x1,A0 x0 x1→A1 x0 x1→A2 x0 x1→A3 x0 x1→A4 x0 x1→A5 x0 x1→A6 x0 x1→P):P:=h.elim λx0 h=>h.elim λx1 h=>h.elim λh0 h=>h.elim λh1 h=>h.elim λh2 h=>h.elim λh3 h=>h.elim λh4 h=>h.elim λh5 h=>k x0 x1 h0 h1 h2 h3 h4 h5 h
theorem zdP {α0 α1 α2:Sort _}{A0:α0→α1→α2→Prop}{A1:α0→α1→α2→Prop}{A2:α0→α1→α2→Prop}{A3:α0→α1→α2→Prop}{A4:α0→α1→α2→Prop}{A5:α0→α1→α2→Prop}{P:Prop} (h:∃x0,∃x1,∃x2,A0 x0 x1 x2∧A1 x0 x1 x2∧A2 x0 x1 x2∧A3 x0 x1 x2∧A4 x0 x1 x2∧A5 x0 x1 x2) (k:∀x0,∀x1,∀x2,A0 x0 x1 x2→A1 x0 x1 x2→A2 x0 x1 x2→A3 x0 x1 x2→A4 x0 x1 x2→A5 x0 x1 x2→P):P:=h.elim λx0 h=>h.elim λx1 h=>h.elim λx2 h=>h.elim λh0 h=>h.elim λh1 h=>h.elim λh2 h=>h.elim λh3 h=>h.elim λh4 h=>k x0 x1 x2 h0 h1 h2 h3 h4 h
theorem zgf {α0 α1 α2 α3:Sort _}{A0:α0→α1→α2→α3→Prop}{A1:α0→α1→α2→α3→Prop}{A2:α0→α1→α2→α3→Prop}{A3:α0→α1→α2→α3→Prop}{A4:α0→α1→α2→α3→Prop}{P:Prop} (h:∃x0,∃x1,∃x2,∃x3,A0 x0 x1 x2 x3∧A1 x0 x1 x2 x3∧A2 x0 x1 x2 x3∧A3 x0 x1 x2 x3∧A4 x0 x1 x2 x3) (k:∀x0,∀x1,∀x2,∀x3,A0 x0 x1 x2 x3→A1 x0 x1 x2 x3→A2 x0 x1 x2 x3→A3 x0 x1 x2 x3→A4 x0 x1 x2 x3→P):P:=h.elim λx0 h=>h.elim λx1 h=>h.elim λx2 h=>h.elim λx3 h=>h.elim λh0 h=>h.elim λh1 h=>h.elim λh2 h=>h.elim λh3 h=>k x0 x1 x2 x3 h0 h1 h2 h3 h
theorem ziS {α0 α1 α2:Sort _}{A0:α0→Prop}{A1:α0→α1→Prop}{A2:α0→α1→Prop}{A3:α0→α1→Prop}{A4:α0→α1→Prop}{A5:α0→α1→α2→Prop}{A6:α0→α1→α2→Prop}{P:Prop} (h:∃x0,A0 x0∧∃x1,A1 x0 x1∧A2 x0 x1∧A3 x0 x1∧A4 x0 x1∧∃x2,A5 x0 x1 x2∧A6 x0 x1 x2) (k:∀x0,A0 x0→∀x1,A1 x0 x1→A2 x0 x1→A3 x0 x1→A4 x0 x1→∀x2,A5 x0 x1 x2→A6 x0 x1 x2→P):P:=h.elim λx0 h=>h.elim λh0 h=>h.elim λx1 h=>h.elim λh1 h=>h.elim λh2 h=>h.elim λh3 h=>h.elim λh4 h=>h.elim λx2 h=>h.elim λh5 h=>k x0 h0 x1 h1 h2 h3 h4 x2 h5 h
theorem zeP {α0 α1:Sort _}{A0:α0→α1→Prop}{A1:α0→α1→Prop}{A2:α0→α1→Prop}{A3:α0→α1→Prop}{A4:α0→α1→Prop}{A5:α0→α1→Prop}{A6:α0→α1→Prop}{A7:α0→α1→Prop}{P:Prop} (h:∃x0,∃x1,A0 x0 x1∧A1 x0 x1∧A2 x0 x1∧A3 x0 x1∧A4 x0 x1∧A5 x0 x1∧A6 x0 x1∧A7 x0 x1) (k:∀x0,∀x1,A0 x0 x1→A1 x0 x1→A2 x0 x1→A3 x0 x1→A4 x0 x1→A5 x0 x1→A6 x0 x1→A7 x0 x1→P):P:=h.elim λx0 h=>h.elim λx1 h=>h.elim λh0 h=>h.elim λh1 h=>h.elim λh2 h=>h.elim λh3 h=>h.elim λh4 h=>h.elim λh5 h=>h.elim λh6 h=>k x0 x1 h0 h1 h2 h3 h4 h5 h6 h
theorem ziR {α0 α1 α2 α3:Sort _}{A0:α0→α1→α2→α3→Prop}{A1:α0→α1→α2→α3→Prop}{A2:α0→α1→α2→α3→Prop}{A3:α0→α1→α2→α3→Prop}{A4:α0→α1→α2→α3→Prop}{A5:α0→α1→α2→α3→Prop}{P:Prop} (h:∃x0,∃x1,∃x2,∃x3,A0 x0 x1 x2 x3∧A1 x0 x1 x2 x3∧A2 x0 x1 x2 x3∧A3 x0 x1 x2 x3∧A4 x0 x1 x2 x3∧A5 x0 x1 x2 x3) (k:∀x0,∀x1,∀x2,∀x3,A0 x0 x1 x2 x3→A1 x0 x1 x2 x3→A2 x0 x1 x2 x3→A3 x0 x1 x2 x3→A4 x0 x1 x2 x3→A5 x0 x1 x2 x3→P):P:=h.elim λx0 h=>h.elim λx1 h=>h.elim λx2 h=>h.elim λx3 h=>h.elim λh0 h=>h.elim λh1 h=>h.elim λh2 h=>h.elim λh3 h=>h.elim λh4 h=>k x0 x1 x2 x3 h0 h1 h2 h3 h4 h
theorem zbh {α0 α1 α2 α3 α4 α5 α6:Sort _}{A0:α0→α1→α2→α3→α4→α5→α6→Prop}{A1:α0→α1→α2→α3→α4→α5→α6→Prop}{A2:α0→α1→α2→α3→α4→α5→α6→Prop}{P:Prop} (h:∃x0,∃x1,∃x2,∃x3,∃x4,∃x5,∃x6,A0 x0 x1 x2 x3 x4 x5 x6∧A1 x0 x1 x2 x3 x4 x5 x6∧A2 x0 x1 x2 x3 x4 x5 x6) (k:∀x0,∀x1,∀x2,∀x3,∀x4,∀x5,∀x6,A0 x0 x1 x2 x3 x4 x5 x6→A1 x0 x1 x2 x3 x4 x5 x6→A2 x0 x1 x2 x3 x4 x5 x6→P):P:=h.elim λx0 h=>h.elim λx1 h=>h.elim λx2 h=>h.elim λx3 h=>h.elim λx4 h=>h.elim λx5 h=>h.elim λx6 h=>h.elim λh0 h=>h.elim λh1 h=>k x0 x1 x2 x3 x4 x5 x6 h0 h1 h
theorem zle {a b:Nat} (h:a≤b):(a:Int)≤(b:Int):=Int.ofNat_le.mpr h
theorem nle {a b:Nat} (h:(a:Int)≤(b:Int)):a≤b:=Int.ofNat_le.mp h
end Mine.Internal
end

noncomputable section
set_option genInjectivity true
set_option backward.match.sparseCases false
open PySem
namespace Mine.Internal
inductive D where
 | none
 | bool (b:Bool)
 | int (i:Int)
 | str (x:List Nat)
 | list (xs:List D)
 | tup (xs:List D)
 /-- a text whose token is told -/
 | tk (x:List Nat) (t:Nat)
 deriving Inhabited
inductive B where
 | fz (d:D)
 | mu (xs:List D)
 deriving Inhabited
mutual
noncomputable def zbp:D→Bool
 | .list _=>false
 | .tup xs=>zg xs
 | _=>true
noncomputable def zg:List D→Bool
 | []=>true
 | d::ds=>zbp d && zg ds
end
inductive Mth where
 | join | count | bits
 deriving DecidableEq
set_option genCtorIdx false
set_option genInjectivity false
mutual
inductive T where
 | lit (d:D)
 | var (i:Nat)
 | un (o:UnaryOp) (e:T)
 | bin (o:Operator) (l r:T)
 | cmp (o:CmpOp) (l r:T)
 | and (l r:T)
 | or (l r:T)
 | ife (c:Q) (a b:T)
 | sub (e i:T)
 | slc (e lo hi st:T)
 | tup (es:List T)
 | list (es:List T)
 | comp (n:Nat) (caps:List Nat) (src:S) (ifs:List Q) (elt:T)
 | call (f:Nat) (es:List T)
 /-- a call whose arguments behind the first one are written texts (their tokens are told apart) -/
 | callt (f:Nat) (e:T) (xs:List (List Nat))
 /-- list(range(..)) -/
 | lrg (es:List T)
 | meth (m:Mth) (e:T) (es:List T)
 /-- a text's replace: the two texts written,or with told tokens -/
 | repl (e a b:T)
 /-- sorted(a comprehension of pairs) -/
 | srt (e:T)
inductive Q where
 | val (e:T)
 | not (q:Q)
 | and (l r:Q)
 | or (l r:Q)
inductive S where
 | it (e:T)
 | call (f:Nat) (es:List T)
end
noncomputable instance:Inhabited T:=⟨.var 0⟩
noncomputable instance:Inhabited Q:=⟨.val default⟩
inductive U where
 | set (i:Nat) (e:T)
 | new (i:Nat) (e:T)
 | unp (is:List Nat) (e:T)
 | seti (i:Nat) (ix e:T)
 | aug (i:Nat) (o:Operator) (e:T)
 | app (i:Nat) (e:T)
 | rem (i:Nat) (e:T)
 | rev (i:Nat)
 | pop (i:Nat)
 | ite (c:Q) (a b:List U)
 | whl (c:Q) (a:List U)
 | for_ (n:Nat) (is:List Nat) (src:S) (body:List U)
 | ret (e:T)
 | brk
 | fail
 deriving Inhabited
set_option genCtorIdx true
noncomputable abbrev zc:=List (Option B)
noncomputable abbrev Fns:=Nat→List D→Option D
section
variable {α β:Type}
theorem zl {P:Prop}{x:α} (h:Option.none=some x):P:=nomatch h
noncomputable def zA (d:D) (f:Int→Option α):Option α:=match d with
 | .int i=>f i
 | _=>Option.none
noncomputable def zaT (d:D) (f:List Nat→Option α):Option α:=match d with
 | .str i=>f i
 | _=>Option.none
noncomputable def zad (d:D) (f:List D→Option α):Option α:=match d with
 | .list i=>f i
 | _=>Option.none
noncomputable def zjh (d:D) (f:List D→Option α):Option α:=match d with
 | .tup i=>f i
 | _=>Option.none
noncomputable def zgA (d:D) (x:Option α):Option α:=match d with
 | .none=>x
 | _=>Option.none
noncomputable def on0 (l:List β) (x:Option α):Option α:=match l with
 | []=>x
 | _::_=>Option.none
noncomputable def on1 (l:List β) (f:β→Option α):Option α:=match l with
 | []=>Option.none
 | b::r=>on0 r (f b)
noncomputable def on2 (l:List β) (f:β→β→Option α):Option α:=match l with
 | []=>Option.none
 | b::r=>on1 r (f b)
@[simp] theorem zkT {i:Int}{f:Int→Option α}:zA (.int i) f=f i:=rfl
@[simp] theorem zkS {i:List Nat}{f:List Nat→Option α}:zaT (.str i) f=f i:=rfl
@[simp] theorem zea {i:List D}{f:List D→Option α}:zad (.list i) f=f i:=rfl
@[simp] theorem zkR {i:List D}{f:List D→Option α}:zjh (.tup i) f=f i:=rfl
@[simp] theorem zwC {b:β}{f:β→Option α}:on1 [b] f=f b:=rfl
@[simp] theorem zwB {a b:β}{f:β→β→Option α}:on2 [a,b] f=f a b:=rfl
noncomputable def zkU (d:D) (f:Bool→Option α):Option α:=match d with
 | .bool i=>f i
 | _=>Option.none
noncomputable def onC (l:List β) (f:β→List β→Option α):Option α:=match l with
 | []=>Option.none
 | b::r=>f b r
noncomputable def on4 (l:List β) (f:β→β→β→β→Option α):Option α:=onC l λa l=>onC l λb l=>on2 l (f a b)
@[simp] theorem zqe {i:Bool}{f:Bool→Option α}:zkU (.bool i) f=f i:=rfl
theorem zec {d:D}{f:Bool→Option α}{x:α} (h:zkU d f=some x):∃i,d = .bool i∧f i=some x:=by
 cases d<;>first | exact⟨_,rfl,h⟩ | exact zl (show Option.none=some x from h)
theorem zgB {l:List β}{f:β→List β→Option α}{x:α} (h:onC l f=some x):∃b r,l=b::r∧f b r=some x:=by
 cases l<;>first | exact⟨_,_,rfl,h⟩ | exact zl (show Option.none=some x from h)
theorem zji {d:D}{f:List Nat→Option α}{g:α→Option β}:(zaT d f).bind g=zaT d λx=>(f x).bind g:=by cases d<;>rfl
theorem zae {d:D}{f:Int→Option α}{x:α} (h:zA d f=some x):∃i,d = .int i∧f i=some x:=by
 cases d<;>first | exact⟨_,rfl,h⟩ | exact zl (show Option.none=some x from h)
theorem zF {d:D}{f:List Nat→Option α}{x:α} (h:zaT d f=some x):∃i,d = .str i∧f i=some x:=by
 cases d<;>first | exact⟨_,rfl,h⟩ | exact zl (show Option.none=some x from h)
theorem zaL {d:D}{f:List D→Option α}{x:α} (h:zad d f=some x):∃i,d = .list i∧f i=some x:=by
 cases d<;>first | exact⟨_,rfl,h⟩ | exact zl (show Option.none=some x from h)
theorem zcE {d:D}{f:List D→Option α}{x:α} (h:zjh d f=some x):∃i,d = .tup i∧f i=some x:=by
 cases d<;>first | exact⟨_,rfl,h⟩ | exact zl (show Option.none=some x from h)
theorem zcF {d:D}{y:Option α}{x:α} (h:zgA d y=some x):d = .none∧y=some x:=by
 cases d<;>first | exact⟨rfl,h⟩ | exact zl (show Option.none=some x from h)
theorem zgC {l:List β}{y:Option α}{x:α} (h:on0 l y=some x):l=[]∧y=some x:=by
 cases l<;>first | exact⟨rfl,h⟩ | exact zl (show Option.none=some x from h)
theorem zik {l:List β}{f:β→Option α}{x:α} (h:on1 l f=some x):∃b,l=[b]∧f b=some x:=by
 cases l with
 | nil=>exact zl (show Option.none=some x from h)
 | cons b r=>refine xA (zgC (show on0 r (f b)=some x from h)) λq0_ h=>?_;subst q0_;exact⟨_,rfl,h⟩
theorem zou {l:List β}{f:β→β→Option α}{x:α} (h:on2 l f=some x):∃a b,l=[a,b]∧f a b=some x:=by
 cases l with
 | nil=>exact zl (show Option.none=some x from h)
 | cons b r=>refine xEA (zik (show on1 r (f b)=some x from h)) λc q1_ h=>?_;subst q1_;exact⟨_,_,rfl,h⟩
theorem zts {l:List β}{f:β→β→β→β→Option α}{x:α} (h:on4 l f=some x):∃a b c d,l=[a,b,c,d]∧f a b c d=some x:=by
 refine zav (zgB h) λa _ q2_ h1=>?_;subst q2_
 refine zav (zgB h1) λb _ q2_ h2=>?_;subst q2_
 refine zav (zou h2) λc d q2_ h3=>?_;subst q2_
 exact⟨a,b,c,d,rfl,h3⟩
theorem zcr {o:Option β}{f:β→Option α}{x:α} (h:o.bind f=some x):∃a,o=some a∧f a=some x:=by
 cases o with
 | none=>exact zl (show Option.none=some x from h)
 | some a=>exact⟨a,rfl,h⟩
theorem zhf {o:Option β}{f:β→α}{x:α} (h:o.map f=some x):∃a,o=some a∧x=f a:=by
 cases o with
 | none=>exact zl (show Option.none=some x from h)
 | some a=>exact⟨a,rfl,(Option.some.inj h).symm⟩
theorem ziy {c:Prop} [i:Decidable c] {t:Option α}{x:α} (h:(if c then t else Option.none)=some x):c∧t=some x:=by
 cases i with
 | isTrue hc=>exact⟨hc,h⟩
 | isFalse hc=>exact zl (show Option.none=some x from h)
theorem ifE {α:Type}{f n:Nat}{a y:Option α}{d:α}{P:Nat→Prop} (h:(if f=n then a else y)=some d) (h1:a=some d→P n) (h2:y=some d→P f):P f:=by
 by_cases q:f=n
 ·subst q;rw[if_pos rfl]at h;exact h1 h
 ·rw[if_neg q]at h;exact h2 h
theorem ifP {α:Type}{c:Prop} [i:Decidable c] {x y z:α} (h:(if c then x else y)=z):(c∧x=z)∨(¬c∧y=z):=by
 cases i with
 | isTrue hc=>exact .inl ⟨hc,h⟩
 | isFalse hc=>exact .inr ⟨hc,h⟩
theorem zp {a x:α} (h:some a=some x):x=a:=(Option.some.inj h).symm
theorem zeO {a b:Bool} (h:(a && b)=true):a=true∧b=true:=by
 cases a with
 | true=>exact⟨rfl,h⟩
 | false=>cases h
theorem zf {o:Option β}{f:β→Option α}{x:α}{C:Prop} (h:o.bind f=some x) (k:∀a,o=some a→f a=some x→C):C :=
 (zcr h).elim λa y=>k a y.1 y.2
@[elab_as_elim] theorem zhB {P:α→Prop}{o:Option β}{f:β→α}{x:α} (h:o.map f=some x) (k:∀a,o=some a→P (f a)):P x :=
 (zhf h).elim λa y=>y.2▸k a y.1
theorem zay {c:Prop} [i:Decidable c] {t:Option α}{x:α}{C:Prop} (h:(if c then t else Option.none)=some x) (k:c→t=some x→C):C:=k (ziy h).1 (ziy h).2
@[elab_as_elim] theorem zo {P:α→Prop}{a x:α} (h:some a=some x) (k:P a):P x:=zp h▸k
theorem zj {a b:Bool}{C:Prop} (h:(a && b)=true) (k:a=true→b=true→C):C:=k (zeO h).1 (zeO h).2
@[elab_as_elim] theorem zaf {P:D→Prop}{d:D}{f:Int→Option α}{x:α} (h:zA d f=some x) (k:∀i,f i=some x→P (.int i)):P d :=
 (zae h).elim λi y=>y.1▸k i y.2
@[elab_as_elim] theorem zfd {P:D→Prop}{d:D}{f:List Nat→Option α}{x:α} (h:zaT d f=some x) (k:∀i,f i=some x→P (.str i)):P d :=
 (zF h).elim λi y=>y.1▸k i y.2
@[elab_as_elim] theorem zeb {P:D→Prop}{d:D}{f:List D→Option α}{x:α} (h:zad d f=some x) (k:∀i,f i=some x→P (.list i)):P d :=
 (zaL h).elim λi y=>y.1▸k i y.2
@[elab_as_elim] theorem zkV {P:List β→Prop}{l:List β}{f:β→Option α}{x:α} (h:on1 l f=some x) (k:∀b,f b=some x→P [b]):P l :=
 (zik h).elim λi y=>y.1▸k i y.2
@[elab_as_elim] theorem ztt {P:List β→Prop}{l:List β}{f:β→β→Option α}{x:α} (h:on2 l f=some x) (k:∀a b,f a b=some x→P [a,b]):P l :=
 (zou h).elim λi y=>y.elim λj y=>y.1▸k i j y.2
@[elab_as_elim] theorem onCE {P:List β→Prop}{l:List β}{f:β→List β→Option α}{x:α} (h:onC l f=some x) (k:∀a b,f a b=some x→P (a::b)):P l :=
 (zgB h).elim λi y=>y.elim λj y=>y.1▸k i j y.2
end
noncomputable def eq1 (a b:D):Option Bool:=match a with
 | .int i=>zA b λj=>some (i == j)
 | .str x=>zaT b λy=>some (x == y)
 | .none=>Option.none
 | .bool _=>Option.none
 | .list _=>Option.none
 | .tup _=>Option.none
 | .tk _ _=>Option.none
noncomputable def eqs:List D→List D→Option Bool
 | [],l=>on0 l (some true)
 | a::as,l=>onC l λb bs=>(eq1 a b).bind λp=>(eqs as bs).bind λq=>some (p && q)
noncomputable def deq (a b:D):Option Bool:=match a with
 | .list xs=>zad b λys=>if xs.length=ys.length then eqs xs ys else some false
 | .tup xs=>zjh b λys=>if xs.length=ys.length then eqs xs ys else Option.none
 | .int i=>eq1 (.int i) b
 | .str i=>eq1 (.str i) b
 | .none=>Option.none
 | .bool _=>Option.none
 | .tk _ _=>Option.none
noncomputable def zrw (x:D):List D→Option (List Bool)
 | []=>some []
 | y::ys=>(eq1 y x).bind λp=>(zrw x ys).bind λq=>some (p::q)
@[simp] theorem zxm {i j:Int}:eq1 (.int i) (.int j)=some (i == j):=rfl
@[simp] theorem zxl {i j:List Nat}:eq1 (.str i) (.str j)=some (i == j):=rfl
@[simp] theorem zxk:eqs [] []=some true:=rfl
@[simp] theorem zvu {a b:D}{as bs:List D}:eqs (a::as) (b::bs)=(eq1 a b).bind λp=>(eqs as bs).bind λq=>some (p && q):=rfl
@[simp] theorem zxp {i j:Int}:deq (.int i) (.int j)=some (i == j):=rfl
@[simp] theorem zqV {i j:List Nat}:deq (.str i) (.str j)=some (i == j):=rfl
@[simp] theorem znK {xs ys:List D}:deq (.list xs) (.list ys)=if xs.length=ys.length then eqs xs ys else some false:=rfl
@[simp] theorem zxo {xs ys:List D}:deq (.tup xs) (.tup ys)=if xs.length=ys.length then eqs xs ys else Option.none:=rfl
noncomputable def zvs (x:D) (ys:List D):Option Bool:=(zrw x ys).map λl=>l.any id
noncomputable def zbH (d:D):Option Bool:=match d with
 | .bool b=>some b
 | .int i=>some (i != 0)
 | .list xs=>if xs.length≤2 ^ 20 then some (!xs.isEmpty) else Option.none
 | .none=>Option.none
 | .str _=>Option.none
 | .tup _=>Option.none
 | .tk _ _=>Option.none
noncomputable def un1 (o:UnaryOp) (d:D):Option D:=match o with
 | .USub=>zA d λa=>some (.int (-a))
 | .Invert=>zA d λa=>some (.int (Builtin.bitNot a))
 | .UAdd=>Option.none
 | .Not=>Option.none
noncomputable def zby (a b:Int):Bool:=b != 0 && !Builtin.divisionGoesByPylong a b
noncomputable def zmq (o:Operator) (a b:Int):Option D:=match o with
 | .Add=>some (.int (a+b))
 | .Sub=>some (.int (a - b))
 | .Mult=>if Builtin.Int.intBits a+Builtin.Int.intBits b≤2 ^ 20 then some (.int (a*b)) else Option.none
 | .MatMult=>Option.none
 | .Div=>Option.none
 | .Mod=>if b != 0 then some (.int (a.fmod b)) else Option.none
 | .Pow=>if 0≤b∧(Builtin.Int.intBits a:Int)*b≤2 ^ 20 then some (.int (a ^ b.toNat)) else Option.none
 | .LShift=>if 0≤b∧(Builtin.Int.intBits a:Int)+b≤2 ^ 20 then some (.int (a*2 ^ b.toNat)) else Option.none
 | .RShift=>if 0≤b then some (.int (a.fdiv (2 ^ b.toNat))) else Option.none
 | .BitOr=>some (.int (Builtin.bitOr a b))
 | .BitXor=>some (.int (Builtin.bitXor a b))
 | .BitAnd=>some (.int (Builtin.bitAnd a b))
 | .FloorDiv=>if zby a b then some (.int (a.fdiv b)) else Option.none
noncomputable def zcA (o:Operator):Nat:=match o with
 | .Add=>0
 | .Mult=>1
 | _=>2
theorem ziV {o:Operator} (h:zcA o=0):o = .Add:=by cases o<;>first | rfl | cases h
theorem ziU {o:Operator} (h:zcA o=1):o = .Mult:=by cases o<;>first | rfl | cases h
noncomputable def zhd {α:Type} (o:Operator) (x y:Option α):Option α:=if zcA o=0 then x else if zcA o=1 then y else Option.none
theorem zeD {α:Type}{o:Operator}{x y:Option α}{z:α} (h:zhd o x y=some z):(o = .Add∧x=some z)∨(o = .Mult∧y=some z):=by
 unfold zhd at h
 by_cases c:zcA o=0
 ·rw[if_pos c]at h;exact .inl ⟨ziV c,h⟩
 ·rw[if_neg c]at h
  refine xA (ziy h) λc h=>?_
  exact .inr ⟨ziU c,h⟩
noncomputable def zcs (o:Operator) (a b:D):Option D:=match a with
 | .int a=>zA b λb=>zmq o a b
 | .str a=>zhd o (zaT b λb=>if a.length+b.length≤2 ^ 20 then some (.str (a++b)) else Option.none)
   (zA b λb=>if 0≤b∧b≤2 ^ 20∧(a.length:Int)*b≤2 ^ 20 then some (.str (List.replicate b.toNat a).flatten) else Option.none)
 | .list a=>zhd o (zad b λb=>if a.length+b.length≤2 ^ 20∧zg (a++b)=true then some (.list (a++b)) else Option.none)
   (zA b λb=>if 0≤b∧b≤2 ^ 20∧a.length*b.toNat≤2 ^ 20∧a.isEmpty=false∧zg a=true then some (.list (List.replicate b.toNat a).flatten) else Option.none)
 | .none=>Option.none
 | .bool _=>Option.none
 | .tup _=>Option.none
 | .tk _ _=>Option.none
noncomputable def zuz (f:Int→Int→Bool) (a b:D):Option Bool:=zA a λa=>zA b λb=>some (f a b)
noncomputable def isNn (d:D):Option Bool:=match d with
 | .none=>some true
 | .int _=>some false
 | .bool _=>Option.none
 | .str _=>Option.none
 | .list _=>Option.none
 | .tup _=>Option.none
 | .tk _ _=>Option.none
noncomputable def inD (x d:D):Option Bool:=match d with
 | .str y=>zaT x λx=>on1 x λx=>some (y.contains x)
 | .list ys=>zvs x ys
 | .none=>Option.none
 | .int _=>Option.none
 | .bool _=>Option.none
 | .tup _=>Option.none
 | .tk _ _=>Option.none
noncomputable def zhg (o:CmpOp) (a b:D):Option Bool:=match o with
 | .Eq=>deq a b
 | .NotEq=>(deq a b).map (!·)
 | .Lt=>zuz (λa b=>decide (a < b)) a b
 | .LtE=>zuz (λa b=>decide (a≤b)) a b
 | .Gt=>zuz (λa b=>decide (b < a)) a b
 | .GtE=>zuz (λa b=>decide (b≤a)) a b
 | .Is=>zgA b (isNn a)
 | .IsNot=>Option.none
 | .In=>inD a b
 | .NotIn=>(inD a b).map (!·)
noncomputable def at? {α:Type} (xs:List α) (i:Int):Option α :=
 if 0≤i then xs[i.toNat]? else if -(xs.length:Int)≤i then xs[(i+xs.length).toNat]? else Option.none
noncomputable def zho (a b:D):Option D:=zA b λi=>match a with
 | .list xs=>if xs.length≤2 ^ 20 then at? xs i else Option.none
 | .tup xs=>if xs.length≤2 ^ 20 then at? xs i else Option.none
 | .str x=>if x.length≤2 ^ 20 then(at? x i).map λc=>.str [c] else Option.none
 | .none=>Option.none
 | .int _=>Option.none
 | .bool _=>Option.none
 | .tk _ _=>Option.none
noncomputable def zeu (n:Nat) (i:Int):Nat:=if 0≤i then min i.toNat n else(i+n).toNat
noncomputable def zmo {α:Type} (xs:List α) (lo hi st:D):Option (List α):=match lo with
 | .none=>(match hi with
  | .none=>zA st λi=>if i = -1 then some xs.reverse else Option.none
  | .int b=>zgA st (some (xs.take (zeu xs.length b)))
  | .bool _=>Option.none
  | .str _=>Option.none
  | .list _=>Option.none
  | .tup _=>Option.none
  | .tk _ _=>Option.none)
 | .int a=>(match hi with
  | .none=>zgA st (some (xs.drop (zeu xs.length a)))
  | .int b=>zgA st (some ((xs.take (zeu xs.length b)).drop (zeu xs.length a)))
  | .bool _=>Option.none
  | .str _=>Option.none
  | .list _=>Option.none
  | .tup _=>Option.none
  | .tk _ _=>Option.none)
 | .bool _=>Option.none
 | .str _=>Option.none
 | .list _=>Option.none
 | .tup _=>Option.none
 | .tk _ _=>Option.none
noncomputable def zsB (d lo hi st:D):Option D:=match d with
 | .str x=>if x.length≤2 ^ 20 then(zmo x lo hi st).map .str else Option.none
 | .list xs=>if xs.length≤2 ^ 20∧zg xs=true then(zmo xs lo hi st).map .list else Option.none
 | _=>Option.none
noncomputable def zcZ:List D→Option (List (List Nat))
 | []=>some []
 | d::r=>zaT d λx=>(zcZ r).map (x::·)
noncomputable def zbD:List D→Option (List Int)
 | []=>some []
 | d::r=>zA d λx=>(zbD r).map (x::·)
noncomputable def ziM (d:D) (ys:List D):Option Nat:=(zrw d ys).map λl=>l.countP id
noncomputable def zuw (x:List Nat) (d:D):Option D:=match d with
 | .str y=>some (.int (Txt.count ⟨x.toArray⟩ ⟨y.toArray⟩))
 | .tk y _=>some (.int (Txt.count ⟨x.toArray⟩ ⟨y.toArray⟩))
 | .none=>Option.none
 | .int _=>Option.none
 | .bool _=>Option.none
 | .list _=>Option.none
 | .tup _=>Option.none
noncomputable def zux (a d:D):Option D:=match a with
 | .str x=>zuw x d
 | .list xs=>(ziM d xs).map λ(n:Nat)=>.int n
 | .none=>Option.none
 | .int _=>Option.none
 | .bool _=>Option.none
 | .tup _=>Option.none
 | .tk _ _=>Option.none
noncomputable def zwO (d:D):Option D:=zad d λys=>(zcZ ys).bind λl=>if (l.map (·.length)).sum+l.length≤2 ^ 20 then some (.str l.flatten) else Option.none
noncomputable def zeK (m:Mth) (a:D) (ds:List D):Option D:=match m with
 | .join=>zaT a λx=>on0 x (on1 ds zwO)
 | .count=>on1 ds (zux a)
 | .bits=>zA a λa=>on0 ds (some (.int (Builtin.Int.intBits a)))
noncomputable def zX (a b:Int):List D:=(List.range (b - a).toNat).map λ(i:Nat)=>.int (a+(i:Int))
noncomputable def zce (n:Nat):D→Option (List D)
 | .list xs=>if zg xs=true then some xs else Option.none
 | .str x=>if n=0 then some (x.map λc=>.str [c]) else Option.none
 | _=>Option.none
noncomputable def zbd (ρ:zc) (i:Nat):Option D:=match ρ[i]? with
 | some (some (.fz d))=>some d
 | some (some (.mu xs))=>some (.list xs)
 | _=>Option.none
noncomputable def zfW (n:Nat) (d:D):Option (List D):=match n with
 | 0=>some [d]
 | n+1=>zjh d λxs=>if xs.length=n+1 then some xs else Option.none
noncomputable def zxB (o:Operator) (a b:Int):Option D:=match o with
 | .Add=>some (.int (a+b))
 | .Sub=>some (.int (a - b))
 | .Mult=>if Builtin.Int.intBits a+Builtin.Int.intBits b≤2 ^ 20 then some (.int (a*b)) else Option.none
 | .MatMult=>Option.none
 | .Div=>Option.none
 | .Mod=>Option.none
 | .Pow=>Option.none
 | .LShift=>if 0≤b∧(Builtin.Int.intBits a:Int)+b≤2 ^ 20 then some (.int (a*2 ^ b.toNat)) else Option.none
 | .RShift=>if 0≤b then some (.int (a.fdiv (2 ^ b.toNat))) else Option.none
 | .BitOr=>Option.none
 | .BitXor=>Option.none
 | .BitAnd=>Option.none
 | .FloorDiv=>Option.none
noncomputable def zmj (o:Operator) (a b:D):Option D:=match a with
 | .int a=>zA b λb=>zxB o a b
 | .str a=>zhd o (zaT b λb=>if a.length+b.length≤2 ^ 20 then some (.str (a++b)) else Option.none) Option.none
 | .list _=>Option.none
 | .none=>Option.none
 | .bool _=>Option.none
 | .tup _=>Option.none
 | .tk _ _=>Option.none
inductive RA where
 | lit (x:List Nat)
 | tk (x:List Nat) (t:Nat)
noncomputable def zwK (t:T):Option (List Nat):=match t with
 | .lit d=>zaT d some
 | _=>Option.none
theorem zqo {t:T}{x:List Nat} (h:zwK t=some x):t = .lit (.str x):=by
 cases t with
 | lit d=>refine xEA (zF h) λy q1_ h1=>?_;subst q1_;cases h1;rfl
 | _=>exact zl (show Option.none=some x from h)
noncomputable def zyd {α:Type} (d:D) (f:List Nat→Nat→Option α):Option α:=match d with
 | .tk x t=>f x t
 | _=>Option.none
theorem zqd {α:Type}{d:D}{f:List Nat→Nat→Option α}{x:α} (h:zyd d f=some x):∃y t,d = .tk y t∧f y t=some x:=by
 cases d<;>first | exact⟨_,_,rfl,h⟩ | exact zl (show Option.none=some x from h)
noncomputable def RA.of (d:D) (t:T):Option RA:=match zwK t with
 | some x=>some (.lit x)
 | none=>zyd d λx t=>some (.tk x t)
theorem RA.of_ok {d:D}{t:T}{a:RA} (h:RA.of d t=some a):(∃x,t = .lit (.str x)∧a = .lit x)∨∃x u,d = .tk x u∧a = .tk x u:=by
 unfold RA.of at h
 cases e:zwK t with
 | some x=>rw[e]at h;exact .inl ⟨x,zqo e,zp h⟩
 | none =>
  rw[e]at h
  refine zav (zqd h) λx u q2_ h1=>?_;subst q2_
  exact .inr ⟨x,u,rfl,zp h1⟩
@[simp] theorem RA.of_tk {x:List Nat}{u:Nat}{i:Nat}:RA.of (.tk x u) (.var i)=some (.tk x u):=rfl
@[simp] theorem RA.of_lit {x:List Nat}{d:D}:RA.of d (.lit (.str x))=some (.lit x):=rfl
noncomputable def zdY (x y z:List Nat):Option D:=if x.length+(x.length+1)*z.length≤2 ^ 20 then some (.str (Txt.replace ⟨x.toArray⟩ ⟨y.toArray⟩ ⟨z.toArray⟩).cps.toList) else Option.none
noncomputable def zht (K:Option D) (x:List Nat) (a b:RA):Option D:=match a with
 | .lit y=>(match b with
  | .lit z=>zdY x y z
  | .tk _ _=>Option.none)
 | .tk y t=>(match b with
  | .lit z=>K.bind λd=>zA d λk=>if 0 < t∧(t:Int) < k then zdY x y z else Option.none
  | .tk z u=>if 0 < t∧0 < u∧t≠u then zdY x y z else Option.none)
noncomputable def zwl (n:Nat) (ds:List D):Option (List D):=if ds.length=1 then on1 ds λd=>zA d λb=>if n=0∧-2 ^ 20≤b∧b≤2 ^ 20 then some (zX 0 b) else Option.none
 else on2 ds λa b=>zA a λa=>zA b λb=>if n=0∧-2 ^ 20≤a∧a≤2 ^ 20∧-2 ^ 20≤b∧b≤2 ^ 20 then some (zX a b) else Option.none
noncomputable def zxJ (n:Nat) (ds:List D):Option (List D):=on1 ds λd=>zad d λxs=>if n=0∧zg xs=true then some xs.reverse else Option.none
noncomputable def zsy (F:Fns) (f:Nat) (ds:List D):Option (List D):=if f=20 then(F 20 ds).bind λd=>zad d λxs=>if zg xs=true then some xs else Option.none else Option.none
noncomputable def zxN (F:Fns) (n f:Nat) (ds:List D):Option (List D):=if f=9 then zxJ n ds else zsy F f ds
noncomputable def zrp (F:Fns) (n f:Nat) (ds:List D):Option (List D):=if f=8 then zwl n ds else zxN F n f ds
@[simp] theorem zH {o:Operator}{a b:Int}:zcs o (.int a) (.int b)=zmq o a b:=rfl
@[simp] theorem zuL {a b:List Nat}:zcs .Add (.str a) (.str b)=if a.length+b.length≤2 ^ 20 then some (.str (a++b)) else Option.none:=rfl
@[simp] theorem zuK {a:List Nat}{b:Int}:zcs .Mult (.str a) (.int b)=if 0≤b∧b≤2 ^ 20∧(a.length:Int)*b≤2 ^ 20 then some (.str (List.replicate b.toNat a).flatten) else Option.none:=rfl
@[simp] theorem zhb {a b:List D}:zcs .Add (.list a) (.list b)=if a.length+b.length≤2 ^ 20∧zg (a++b)=true then some (.list (a++b)) else Option.none:=rfl
@[simp] theorem zmb {a:List D}{b:Int}:zcs .Mult (.list a) (.int b)=if 0≤b∧b≤2 ^ 20∧a.length*b.toNat≤2 ^ 20∧a.isEmpty=false∧zg a=true then some (.list (List.replicate b.toNat a).flatten) else Option.none:=rfl
@[simp] theorem zlT {a b:D}:zhg .Eq a b=deq a b:=rfl
@[simp] theorem zxq {a b:D}:zhg .NotEq a b=(deq a b).map (!·):=rfl
@[simp] theorem zqY {a b:Int}:zhg .Lt (.int a) (.int b)=some (decide (a < b)):=rfl
@[simp] theorem zxr {a b:Int}:zhg .LtE (.int a) (.int b)=some (decide (a≤b)):=rfl
@[simp] theorem zxs {a b:Int}:zhg .Gt (.int a) (.int b)=some (decide (b < a)):=rfl
@[simp] theorem zxt {a b:Int}:zhg .GtE (.int a) (.int b)=some (decide (b≤a)):=rfl
@[simp] theorem zvv:zhg .Is .none .none=some true:=rfl
@[simp] theorem zvw {i:Int}:zhg .Is (.int i) .none=some false:=rfl
@[simp] theorem zvx {x:Nat}{y:List Nat}:zhg .In (.str [x]) (.str y)=some (y.contains x):=rfl
@[simp] theorem zuA {x:Nat}{y:List Nat}:zhg .NotIn (.str [x]) (.str y)=some (!y.contains x):=rfl
@[simp] theorem zvy {x:D}{ys:List D}:zhg .In x (.list ys)=zvs x ys:=rfl
@[simp] theorem zuB {x:D}{ys:List D}:zhg .NotIn x (.list ys)=(zvs x ys).map (!·):=rfl
@[simp] theorem zjo {ys:List D}:zeK .join (.str []) [.list ys]=(zcZ ys).bind λl=>if (l.map (·.length)).sum+l.length≤2 ^ 20 then some (.str l.flatten) else Option.none:=rfl
@[simp] theorem zdH {x y:List Nat}:zeK .count (.str x) [.str y]=some (.int (Txt.count ⟨x.toArray⟩ ⟨y.toArray⟩)):=rfl
@[simp] theorem znj {x y:List Nat}{t:Nat}:zeK .count (.str x) [.tk y t]=some (.int (Txt.count ⟨x.toArray⟩ ⟨y.toArray⟩)):=rfl
@[simp] theorem zvp {xs:List D}{d:D}:zeK .count (.list xs) [d]=(ziM d xs).map λ(n:Nat)=>.int n:=rfl
@[simp] theorem zjp {a:Int}:zeK .bits (.int a) []=some (.int (Builtin.Int.intBits a)):=rfl
@[simp] theorem zob {o:Operator}{a b:Int}:zmj o (.int a) (.int b)=zxB o a b:=rfl
@[simp] theorem zfY {a b:List Nat}:zmj .Add (.str a) (.str b)=if a.length+b.length≤2 ^ 20 then some (.str (a++b)) else Option.none:=rfl
@[simp] theorem zvR {a:Int}:un1 .USub (.int a)=some (.int (-a)):=rfl
@[simp] theorem zvS {a:Int}:un1 .Invert (.int a)=some (.int (Builtin.bitNot a)):=rfl
@[simp] theorem zgl {xs:List D}{i:Int}:zho (.list xs) (.int i)=if xs.length≤2 ^ 20 then at? xs i else Option.none:=rfl
@[simp] theorem zvh {xs:List D}{i:Int}:zho (.tup xs) (.int i)=if xs.length≤2 ^ 20 then at? xs i else Option.none:=rfl
@[simp] theorem zvi {x:List Nat}{i:Int}:zho (.str x) (.int i)=if x.length≤2 ^ 20 then(at? x i).map λc=>.str [c] else Option.none:=rfl
section
variable {α:Type}{xs:List α}
@[simp] theorem zvj:zmo xs .none .none (.int (-1))=some xs.reverse:=rfl
@[simp] theorem zwn {b:Int}:zmo xs .none (.int b) .none=some (xs.take (zeu xs.length b)):=rfl
@[simp] theorem zgo {a:Int}:zmo xs (.int a) .none .none=some (xs.drop (zeu xs.length a)):=rfl
@[simp] theorem zmS {a b:Int}:zmo xs (.int a) (.int b) .none=some ((xs.take (zeu xs.length b)).drop (zeu xs.length a)):=rfl
end
@[simp] theorem zxM {F:Fns}{n:Nat}{b:Int}:zrp F n 8 [.int b]=if n=0∧-2 ^ 20≤b∧b≤2 ^ 20 then some (zX 0 b) else Option.none:=rfl
@[simp] theorem zxL {F:Fns}{n:Nat}{a b:Int}:zrp F n 8 [.int a,.int b]=if n=0∧-2 ^ 20≤a∧a≤2 ^ 20∧-2 ^ 20≤b∧b≤2 ^ 20 then some (zX a b) else Option.none:=rfl
@[simp] theorem zxK {F:Fns}{n:Nat}{xs:List D}:zrp F n 9 [.list xs]=if n=0∧zg xs=true then some xs.reverse else Option.none:=rfl
@[simp] theorem zwm {F:Fns}{n:Nat}{ds:List D}:zrp F n 20 ds=(F 20 ds).bind λd=>zad d λxs=>if zg xs=true then some xs else Option.none:=rfl
noncomputable def zbO (n:Nat) (cs:zc) (test:zc→Option Bool) (elt:zc→Option D):List D→Option (List D)
 | []=>some []
 | d::r=>(zfW n d).bind λds=>let σ:=ds.map (λd=>some (.fz d))++cs
  (test σ).bind λt=>if t then(elt σ).bind λx=>if zbp x then(zbO n cs test elt r).map (x::·) else Option.none else zbO n cs test elt r
mutual
noncomputable def ev (F:Fns) (ρ:zc):T→Option D
 | .lit d=>some d
 | .var i=>zbd ρ i
 | .un o e=>(ev F ρ e).bind (un1 o)
 | .bin o l r=>(ev F ρ l).bind λa=>(ev F ρ r).bind λb=>zcs o a b
 | .cmp o l r=>(ev F ρ l).bind λa=>(ev F ρ r).bind λb=>(zhg o a b).map .bool
 | .and l r=>(ev F ρ l).bind λa=>(zbH a).bind λt=>if t then ev F ρ r else some a
 | .or l r=>(ev F ρ l).bind λa=>(zbH a).bind λt=>if t then some a else ev F ρ r
 | .ife c a b=>(tr F ρ c).bind λt=>if t then ev F ρ a else ev F ρ b
 | .sub e i=>(ev F ρ e).bind λa=>(ev F ρ i).bind λb=>zho a b
 | .slc e lo hi st=>(ev F ρ e).bind λa=>(ev F ρ lo).bind λl=>(ev F ρ hi).bind λh=>(ev F ρ st).bind λs=>zsB a l h s
 | .tup es=>(evs F ρ es).map .tup
 | .list es=>(evs F ρ es).bind λds=>if zg ds=true then some (.list ds) else Option.none
 | .comp n caps src ifs elt=>(sr F ρ n src).bind λitems=>if 2 ^ 20 < items.length then Option.none else
  ((caps.map (zbd ρ)).mapM id).bind λcs=>(zbO n (cs.map λd=>some (.fz d)) (λσ=>trs F σ ifs) (λσ=>ev F σ elt) items).map .list
 | .call f es=>(evs F ρ es).bind λds=>F f ds
 | .callt f e xs=>(ev F ρ e).bind λd=>F (f+1000) (d::xs.map .str)
 | .lrg es=>(evs F ρ es).bind λds=>on2 ds λa b=>zA a λa=>zA b λb=>if -2 ^ 20≤a∧a≤2 ^ 20∧-2 ^ 20≤b∧b≤2 ^ 20 then some (.list (zX a b)) else Option.none
 | .meth m e es=>(ev F ρ e).bind λa=>(evs F ρ es).bind λds=>zeK m a ds
 | .srt _=>Option.none
 | .repl e a b=>(ev F ρ e).bind λx=>(ev F ρ a).bind λy=>(ev F ρ b).bind λz=>zaT x λx=>(RA.of y a).bind λy=>(RA.of z b).bind λz=>zht (F 99 []) x y z
noncomputable def evs (F:Fns) (ρ:zc):List T→Option (List D)
 | []=>some []
 | e::r=>(ev F ρ e).bind λd=>(evs F ρ r).bind λds=>some (d::ds)
noncomputable def tr (F:Fns) (ρ:zc):Q→Option Bool
 | .val e=>(ev F ρ e).bind zbH
 | .not q=>(tr F ρ q).map (!·)
 | .and l r=>(tr F ρ l).bind λt=>if t then tr F ρ r else some false
 | .or l r=>(tr F ρ l).bind λt=>if t then some true else tr F ρ r
noncomputable def trs (F:Fns) (ρ:zc):List Q→Option Bool
 | []=>some true
 | e::r=>(tr F ρ e).bind λt=>if t then trs F ρ r else some false
noncomputable def sr (F:Fns) (ρ:zc) (n:Nat):S→Option (List D)
 | .it e=>(ev F ρ e).bind (zce n)
 | .call f es=>(evs F ρ es).bind λds=>zrp F n f ds
end
section
variable {F:Fns}{ρ:zc}{e l r a b x y:T}{es:List T}{c p q:Q}{n f:Nat}
theorem zaK {d:D}:ev F ρ (.lit d)=some d:=rfl
theorem zas {i:Nat}:ev F ρ (.var i)=zbd ρ i:=rfl
theorem zvO {o:UnaryOp}:ev F ρ (.un o e)=(ev F ρ e).bind (un1 o):=rfl
theorem zbG {o:Operator}:ev F ρ (.bin o l r)=(ev F ρ l).bind λa=>(ev F ρ r).bind λb=>zcs o a b:=rfl
theorem zhY {o:CmpOp}:ev F ρ (.cmp o l r)=(ev F ρ l).bind λa=>(ev F ρ r).bind λb=>(zhg o a b).map .bool:=rfl
theorem zrO:ev F ρ (.and l r)=(ev F ρ l).bind λa=>(zbH a).bind λt=>if t then ev F ρ r else some a:=rfl
theorem zoj:ev F ρ (.ife c a b)=(tr F ρ c).bind λt=>if t then ev F ρ a else ev F ρ b:=rfl
theorem zhW:ev F ρ (.sub e x)=(ev F ρ e).bind λa=>(ev F ρ x).bind λb=>zho a b:=rfl
theorem zhX:ev F ρ (.slc e x y r)=(ev F ρ e).bind λa=>(ev F ρ x).bind λl=>(ev F ρ y).bind λh=>(ev F ρ r).bind λs=>zsB a l h s:=rfl
theorem zki:ev F ρ (.tup es)=(evs F ρ es).map .tup:=rfl
theorem zhl:ev F ρ (.list es)=(evs F ρ es).bind λds=>if zg ds=true then some (.list ds) else Option.none:=rfl
theorem zhm {caps:List Nat}{src:S}{ifs:List Q}:ev F ρ (.comp n caps src ifs e)=(sr F ρ n src).bind λitems=>if 2 ^ 20 < items.length then Option.none else
  ((caps.map (zbd ρ)).mapM id).bind λcs=>(zbO n (cs.map λd=>some (.fz d)) (λσ=>trs F σ ifs) (λσ=>ev F σ e) items).map .list:=rfl
theorem zaw:ev F ρ (.call f es)=(evs F ρ es).bind λds=>F f ds:=rfl
theorem zdS {m:Mth}:ev F ρ (.meth m e es)=(ev F ρ e).bind λa=>(evs F ρ es).bind λds=>zeK m a ds:=rfl
theorem zpg:ev F ρ (.repl e a b)=(ev F ρ e).bind λx=>(ev F ρ a).bind λy=>(ev F ρ b).bind λz=>zaT x λx=>(RA.of y a).bind λy=>(RA.of z b).bind λz=>zht (F 99 []) x y z:=rfl
theorem zaJ:evs F ρ []=some []:=rfl
theorem zL:evs F ρ (e::es)=(ev F ρ e).bind λd=>(evs F ρ es).bind λds=>some (d::ds):=rfl
theorem zkf:tr F ρ (.val e)=(ev F ρ e).bind zbH:=rfl
theorem zrN:tr F ρ (.not q)=(tr F ρ q).map (!·):=rfl
theorem zkg {qs:List Q}:trs F ρ (q::qs)=(tr F ρ q).bind λt=>if t then trs F ρ qs else some false:=rfl
theorem zpf:sr F ρ n (.it e)=(ev F ρ e).bind (zce n):=rfl
theorem zkh:sr F ρ n (.call f es)=(evs F ρ es).bind λds=>zrp F n f ds:=rfl
end
inductive Fl where
 | next | brk
 | ret (d:D)
 deriving Inhabited
noncomputable def zaU (ρ:zc) (i:Nat) (b:B):zc:=ρ.set i (some b)
noncomputable def zal:zc→List Nat→List D→Option zc
 | ρ,[],[]=>some ρ
 | ρ,i::is,d::ds=>if zbp d then zal (zaU ρ i (.fz d)) is ds else Option.none
 | _,_,_=>Option.none
noncomputable def fre:T→Bool
 | .lit _=>false
 | .var _=>false
 | .un _ _=>false
 | .bin ..=>true
 | .cmp ..=>false
 | .and _ _=>false
 | .or _ _=>false
 | .ife _ a b=>fre a && fre b
 | .sub e _=>fre e
 | .slc ..=>true
 | .tup _=>false
 | .list _=>true
 | .comp ..=>true
 | .call ..=>true
 | .callt ..=>true
 | .lrg _=>true
 | .meth ..=>true
 | .repl ..=>true
 | .srt _=>true
noncomputable def zck (ρ:zc) (i:Nat):Option (List D):=match ρ[i]? with
 | some (some (.mu xs))=>some xs
 | _=>Option.none
noncomputable def zdT (t:T):Option Nat:=match t with
 | .var i=>some i
 | _=>Option.none
theorem zdB {t:T}{i:Nat} (h:zdT t=some i):t = .var i:=by
 cases t<;>first | exact congrArg T.var (Option.some.inj h) | exact zl (show Option.none=some i from h)
noncomputable def zvt (ρ:zc) (i:Nat):Option D:=match ρ[i]? with
 | some (some (.fz d))=>some d
 | _=>Option.none
noncomputable def muV (ρ:zc) (t:T):Bool:=(zdT t).any λi=>(zck ρ i).any zg
noncomputable def zrQ (t:T):Option (List T):=match t with
 | .tup es=>some es
 | _=>Option.none
theorem zmF {t:T}{es:List T} (h:zrQ t=some es):t = .tup es:=by
 cases t<;>first | exact congrArg T.tup (Option.some.inj h) | exact zl (show Option.none=some es from h)
noncomputable def zkJ (ρ:zc) (d:D) (t:T):Bool:=zbp d || (fre t || (muV ρ t || (zrQ t).any λes=>es.all (muV ρ)))
noncomputable def frz (ρ:zc) (s:S):zc:=match s with
 | .it t=>(match zdT t with
  | some i=>(match zck ρ i with
   | some xs=>ρ.set i (some (.fz (.list xs)))
   | none=>ρ)
  | none=>ρ)
 | .call _ _=>ρ
noncomputable def zpN (ρ:zc) (es:List T):Bool:=match es with
 | []=>false
 | t::r=>r.isEmpty && (zdT t).any λi=>(zvt ρ i).isSome
noncomputable def ziX (ρ:zc) (s:S):Bool:=match s with
 | .it t=>(zdT t).isSome || fre t
 | .call f es=>f != 9 || zpN ρ es
noncomputable def remL (x:D) (ys:List D):Option (List D):=(zrw x ys).bind λl=>(l.findIdx? id).map λi=>ys.eraseIdx i
noncomputable def zeH (xs:List D) (i:Int) (d:D):Option (List D) :=
 if 0≤i then(if i.toNat < xs.length then some (xs.set i.toNat d) else Option.none)
 else if -(xs.length:Int)≤i then some (xs.set (i+xs.length).toNat d) else Option.none
noncomputable def goL (x:Fl×zc) (k:zc→Option (Fl×zc)):Option (Fl×zc):=match x.1 with
 | .next=>k x.2
 | .brk=>some (.next,x.2)
 | .ret d=>some (.ret d,x.2)
noncomputable def goS (x:Fl×zc) (k:zc→Option (Fl×zc)):Option (Fl×zc):=match x.1 with
 | .next=>k x.2
 | .brk=>some (.brk,x.2)
 | .ret d=>some (.ret d,x.2)
noncomputable def zwq (x:Fl×zc):Option D:=match x.1 with
 | .ret d=>some d
 | .next=>some .none
 | .brk=>Option.none
@[simp] theorem zqy {ρ:zc}{k:zc→Option (Fl×zc)}:goL (.next,ρ) k=k ρ:=rfl
@[simp] theorem goL_b {ρ:zc}{k:zc→Option (Fl×zc)}:goL (.brk,ρ) k=some (.next,ρ):=rfl
@[simp] theorem goL_r {ρ:zc}{d:D}{k:zc→Option (Fl×zc)}:goL (.ret d,ρ) k=some (.ret d,ρ):=rfl
@[simp] theorem ztX {ρ:zc}{k:zc→Option (Fl×zc)}:goS (.next,ρ) k=k ρ:=rfl
@[simp] theorem goS_b {ρ:zc}{k:zc→Option (Fl×zc)}:goS (.brk,ρ) k=some (.brk,ρ):=rfl
@[simp] theorem zwX {ρ:zc}{d:D}{k:zc→Option (Fl×zc)}:goS (.ret d,ρ) k=some (.ret d,ρ):=rfl
@[simp] theorem zsI {ρ:zc}{d:D}:zwq (.ret d,ρ)=some d:=rfl
@[simp] theorem zyc {ρ:zc}:zwq (.next,ρ)=some .none:=rfl
noncomputable def zjy (n:Nat) (is:List Nat) (run:zc→Option (Fl×zc)):List D→zc→Option (Fl×zc)
 | [],ρ=>some (.next,ρ)
 | d::r,ρ=>(zfW n d).bind λds=>(zal ρ is ds).bind λρ=>(run ρ).bind λx=>goL x (zjy n is run r)
noncomputable def zjN (test:zc→Option Bool) (run:zc→Option (Fl×zc)):Nat→zc→Option (Fl×zc)
 | 0,_=>Option.none
 | k+1,ρ=>(test ρ).bind λt=>if t then(run ρ).bind (λx=>goL x (zjN test run k)) else some (.next,ρ)
mutual
noncomputable def ex (F:Fns) (N:Nat):zc→U→Option (Fl×zc)
 | ρ,.set i e=>(ev F ρ e).bind λd=>if zbp d || fre e then some (.next,zaU ρ i (.fz d)) else Option.none
 | ρ,.new i e=>(ev F ρ e).bind λd=>zad d λxs=>if fre e && zg xs then some (.next,zaU ρ i (.mu xs)) else Option.none
 | ρ,.unp is e=>(ev F ρ e).bind λd=>zjh d λds=>(zal ρ is ds).map λρ=>(.next,ρ)
 | ρ,.seti i ix e=>(ev F ρ e).bind λd=>(zck ρ i).bind λxs=>(ev F ρ ix).bind λk=>zA k λk=>if zbp d && decide (xs.length≤2 ^ 20) then(zeH xs k d).map λxs=>(.next,zaU ρ i (.mu xs)) else Option.none
 | ρ,.aug i o e=>(zbd ρ i).bind λa=>(ev F ρ e).bind λb=>(zmj o a b).map λd=>(.next,zaU ρ i (.fz d))
 | ρ,.app i e=>(zck ρ i).bind λxs=>(ev F ρ e).bind λd=>if zbp d && xs.length≤2 ^ 20 then some (.next,zaU ρ i (.mu (xs++[d]))) else Option.none
 | ρ,.rem i e=>(zck ρ i).bind λxs=>(ev F ρ e).bind λd=>if xs.length≤2 ^ 20 then(remL d xs).map λxs=>(.next,zaU ρ i (.mu xs)) else Option.none
 | ρ,.rev i=>(zck ρ i).bind λxs=>if xs.length≤2 ^ 20 then some (.next,zaU ρ i (.mu xs.reverse)) else Option.none
 | ρ,.pop i=>(zck ρ i).bind λxs=>if xs.isEmpty || !decide (xs.length≤2 ^ 20) then Option.none else some (.next,zaU ρ i (.mu xs.dropLast))
 | ρ,.ite c a b=>(tr F ρ c).bind λt=>if t then exs F N ρ a else exs F N ρ b
 | ρ,.whl c a=>zjN (λρ=>tr F ρ c) (λρ=>exs F N ρ a) N ρ
 | ρ,.for_ n is src body=>if ziX ρ src then(sr F ρ n src).bind λitems=>zjy n is (λρ=>exs F N ρ body) items (frz ρ src) else Option.none
 | ρ,.ret e=>(ev F ρ e).bind λd=>if zkJ ρ d e then some (.ret d,ρ) else Option.none
 | ρ,.brk=>some (.brk,ρ)
 | _,.fail=>Option.none
noncomputable def exs (F:Fns) (N:Nat):zc→List U→Option (Fl×zc)
 | ρ,[]=>some (.next,ρ)
 | ρ,u::r=>(ex F N ρ u).bind λx=>goS x λρ=>exs F N ρ r
end
section
variable {F:Fns}{N i:Nat}{ρ:zc}{e:T}{us:List U}{u:U}{c:Q}{a b:List U}
theorem zhV:ex F N ρ (.set i e)=(ev F ρ e).bind λd=>if zbp d || fre e then some (.next,zaU ρ i (.fz d)) else Option.none:=rfl
theorem zoi:ex F N ρ (.new i e)=(ev F ρ e).bind λd=>zad d λxs=>if fre e && zg xs then some (.next,zaU ρ i (.mu xs)) else Option.none:=rfl
theorem zog {is:List Nat}:ex F N ρ (.unp is e)=(ev F ρ e).bind λd=>zjh d λds=>(zal ρ is ds).map λρ=>(.next,ρ):=rfl
theorem zpe {x:T}:ex F N ρ (.seti i x e)=(ev F ρ e).bind λd=>(zck ρ i).bind λxs=>(ev F ρ x).bind λk=>zA k λk=>if zbp d && decide (xs.length≤2 ^ 20) then(zeH xs k d).map λxs=>(.next,zaU ρ i (.mu xs)) else Option.none:=rfl
theorem zrL {o:Operator}:ex F N ρ (.aug i o e)=(zbd ρ i).bind λa=>(ev F ρ e).bind λb=>(zmj o a b).map λd=>(.next,zaU ρ i (.fz d)):=rfl
theorem zrM:ex F N ρ (.app i e)=(zck ρ i).bind λxs=>(ev F ρ e).bind λd=>if zbp d && xs.length≤2 ^ 20 then some (.next,zaU ρ i (.mu (xs++[d]))) else Option.none:=rfl
theorem zkd:ex F N ρ (.ite c a b)=(tr F ρ c).bind λt=>if t then exs F N ρ a else exs F N ρ b:=rfl
theorem zrK:ex F N ρ (.whl c a)=zjN (λρ=>tr F ρ c) (λρ=>exs F N ρ a) N ρ:=rfl
theorem zke {n:Nat}{is:List Nat}{src:S}:ex F N ρ (.for_ n is src a)=if ziX ρ src then(sr F ρ n src).bind λitems=>zjy n is (λρ=>exs F N ρ a) items (frz ρ src) else Option.none:=rfl
theorem zoh:ex F N ρ (.ret e)=(ev F ρ e).bind λd=>if zkJ ρ d e then some (.ret d,ρ) else Option.none:=rfl
theorem zkc:exs F N ρ []=some (.next,ρ):=rfl
theorem zcX:exs F N ρ (u::us)=(ex F N ρ u).bind λx=>goS x λρ=>exs F N ρ us:=rfl
end
noncomputable def zbJ (F:Fns) (N:Nat) (k:Nat) (body:List U) (args:List D):Option D :=
 (exs F N (args.map (λd=>some (.fz d))++List.replicate k Option.none) body).bind zwq
noncomputable def zn (l:List Int):Int:=l.foldl (· + ·) 0
noncomputable def zvq:List Int→Option Int
 | []=>Option.none
 | a::l=>some (l.foldl (λm x=>if x > m then x else m) a)
noncomputable def zuP (d:D):Option D:=match d with
 | .list xs=>if xs.length≤2 ^ 20 then some (.int xs.length) else Option.none
 | .str x=>if x.length≤2 ^ 20 then some (.int x.length) else Option.none
 | .none=>Option.none
 | .int _=>Option.none
 | .bool _=>Option.none
 | .tup _=>Option.none
 | .tk _ _=>Option.none
noncomputable def zrf (ds:List D):Option D:=if ds.length=2 then on2 ds λa b=>zA a λa=>zA b λb=>some (.int (if b > a then b else a))
 else on1 ds λd=>zad d λxs=>(zbD xs).bind λl=>(zvq l).map .int
noncomputable def bi7 (f:Nat) (ds:List D):Option D:=if f=7 then on2 ds λa b=>zA a λa=>zA b λb=>if zby a b then some (.tup [.int (a.fdiv b),.int (a.fmod b)]) else Option.none else Option.none
noncomputable def bi6 (f:Nat) (ds:List D):Option D:=bi7 f ds
noncomputable def bi5 (f:Nat) (ds:List D):Option D:=if f=5 then on1 ds λd=>zA d λa=>if 0≤a∧a≤1114111 then some (.str [a.toNat]) else Option.none else bi6 f ds
noncomputable def bi4 (f:Nat) (ds:List D):Option D:=if f=4 then zrf ds else bi5 f ds
noncomputable def bi3 (f:Nat) (ds:List D):Option D:=bi4 f ds
noncomputable def bi2 (f:Nat) (ds:List D):Option D:=if f=2 then on1 ds λd=>zad d λxs=>(zbD xs).map λl=>.int (zn l) else bi3 f ds
noncomputable def bi1 (f:Nat) (ds:List D):Option D:=bi2 f ds
noncomputable def bi (f:Nat) (ds:List D):Option D:=if f=0 then on1 ds zuP else bi1 f ds
@[simp] theorem zhR {xs:List D}:bi 0 [.list xs]=if xs.length≤2 ^ 20 then some (.int xs.length) else Option.none:=rfl
@[simp] theorem zre {xs:List Nat}:bi 0 [.str xs]=if xs.length≤2 ^ 20 then some (.int xs.length) else Option.none:=rfl
@[simp] theorem zoU {xs:List D}:bi 2 [.list xs]=(zbD xs).map λl=>.int (zn l):=rfl
@[simp] theorem zxv {a b:Int}:bi 4 [.int a,.int b]=some (.int (if b > a then b else a)):=rfl
@[simp] theorem zyo {xs:List D}:bi 4 [.list xs]=(zbD xs).bind λl=>(zvq l).map .int:=rfl
@[simp] theorem zuO {a:Int}:bi 5 [.int a]=if 0≤a∧a≤1114111 then some (.str [a.toNat]) else Option.none:=rfl
@[simp] theorem zxw {a b:Int}:bi 7 [.int a,.int b]=if zby a b then some (.tup [.int (a.fdiv b),.int (a.fmod b)]) else Option.none:=rfl
section
variable {F:Fns}{N i n:Nat}{ρ ρ':zc}{a:Option B}{d e:D}{x:List Nat}{xs ys ds:List D}{is:List Nat}{k j:Int}{es:List T}{t:T}
noncomputable def zxF:B→D
 | .fz d=>d
 | .mu xs=>.list xs
theorem zfM {b:B} (h:ρ[i]? = some (some b)):zbd ρ i=some (zxF b):=by unfold zbd;rw[h];cases b<;>rfl
theorem zlw {d:D} (h:zbd ρ i=some d):∃b,ρ[i]? = some (some b)∧d=zxF b:=by
 unfold zbd at h
 cases e:ρ[i]? with
 | none=>rw[e]at h;exact zl h
 | some o =>
  cases o with
  | none=>rw[e]at h;exact zl h
  | some b=>rw[e]at h;exact⟨b,rfl,by cases b<;>exact zp h⟩
theorem ztB (h:ρ[i]? = some (some (.fz d))):zck ρ i=Option.none:=by unfold zck;rw[h]
theorem ztA (h:ρ[i]? = some (some (.mu xs))):zck ρ i=some xs:=by unfold zck;rw[h]
theorem ztC (h:zck ρ i=some xs):ρ[i]? = some (some (.mu xs)):=by
 unfold zck at h
 cases e:ρ[i]? with
 | none=>rw[e]at h;exact zl h
 | some o =>
  cases o with
  | none=>rw[e]at h;exact zl h
  | some b=>rw[e]at h;cases b<;>first | exact zl h | (cases h;rfl)
theorem zqx:zbd (a::ρ) (i+1)=zbd ρ i:=rfl
theorem zoB:zbd (some (.fz d)::ρ) 0=some d:=rfl
theorem zyl:zbd (some (.mu xs)::ρ) 0=some (.list xs):=rfl
theorem mu_s:zck (a::ρ) (i+1)=zck ρ i:=rfl
theorem mu_m:zck (some (.mu xs)::ρ) 0=some xs:=rfl
theorem zxE:zdT (.var i)=some i:=rfl
theorem zwY:fre (.list es)=true:=rfl
theorem fl_n:zbp .none=true:=rfl
theorem fl_b {b:Bool}:zbp (.bool b)=true:=rfl
theorem zqG:zbp (.int k)=true:=rfl
theorem zqF:zbp (.str x)=true:=rfl
theorem fl_k:zbp (.tk x n)=true:=rfl
theorem fl_t:zbp (.tup xs)=zg xs:=rfl
theorem zmr:zg []=true:=rfl
theorem zde:zg (d::ds)=(zbp d && zg ds):=rfl
theorem zlt:zmq .Add k j=some (.int (k+j)):=rfl
theorem ztV:zmq .Sub k j=some (.int (k - j)):=rfl
theorem zlr:zmq .Mult k j=if Builtin.Int.intBits k+Builtin.Int.intBits j≤2 ^ 20 then some (.int (k*j)) else Option.none:=rfl
theorem zlq:zmq .Pow k j=if 0≤j∧(Builtin.Int.intBits k:Int)*j≤2 ^ 20 then some (.int (k ^ j.toNat)) else Option.none:=rfl
theorem zlp:zmq .LShift k j=if 0≤j∧(Builtin.Int.intBits k:Int)+j≤2 ^ 20 then some (.int (k*2 ^ j.toNat)) else Option.none:=rfl
theorem zoA:zmq .RShift k j=if 0≤j then some (.int (k.fdiv (2 ^ j.toNat))) else Option.none:=rfl
theorem zls:zmq .FloorDiv k j=if zby k j then some (.int (k.fdiv j)) else Option.none:=rfl
theorem zxH {b:Bool}:zbH (.bool b)=some b:=rfl
theorem td_l:zbH (.list xs)=if xs.length≤2 ^ 20 then some (!xs.isEmpty) else Option.none:=rfl
theorem zuF:zfW 0 d=some [d]:=rfl
theorem zrx:zal ρ [] []=some ρ:=rfl
theorem znR:zal ρ (i::is) (d::ds)=if zbp d then zal (zaU ρ i (.fz d)) is ds else Option.none:=rfl
theorem zvm {lo hi st:D}:zsB (.list xs) lo hi st=if xs.length≤2 ^ 20∧zg xs=true then(zmo xs lo hi st).map .list else Option.none:=rfl
theorem zyi:zce n (.list xs)=if zg xs=true then some xs else Option.none:=rfl
theorem zyj:zbD (.int k::ds)=(zbD ds).map (k::·):=rfl
theorem ss_c:zcZ (.str x::ds)=(zcZ ds).map (x::·):=rfl
theorem fr_v:frz (some (.fz d)::ρ) (.it (.var 0))=some (.fz d)::ρ:=rfl
section
variable {run:zc→Option (Fl×zc)}{test:zc→Option Bool}{elt:zc→Option D}
theorem zua:zjy n is run (d::ds) ρ=(zfW n d).bind λds'=>(zal ρ is ds').bind λρ=>(run ρ).bind λx=>goL x (zjy n is run ds):=rfl
theorem zvK:zjN test run (i+1) ρ=(test ρ).bind λt=>if t then(run ρ).bind (λx=>goL x (zjN test run i)) else some (.next,ρ):=rfl
theorem zxu {f:zc→Option Bool}:zbO n ρ f elt (d::ds)=(zfW n d).bind λds'=>let σ:=ds'.map (λd=>some (.fz d))++ρ
  (f σ).bind λt=>if t then(elt σ).bind λx=>if zbp x then(zbO n ρ f elt ds).map (x::·) else Option.none else zbO n ρ f elt ds:=rfl
end
end
theorem len0 {α:Type}{l:List α} (h:0=l.length):l=[]:=by cases l<;>first | rfl | cases h
theorem zvr {α:Type}{l:List α}{n:Nat} (h:n+1=l.length):∃a r,l=a::r∧n=r.length:=by
 cases l with
 | nil=>cases h
 | cons a r=>exact⟨a,r,rfl,Nat.succ.inj h⟩
theorem zyf {α:Type}{l:List α} (h:2=l.length):∃a b,l=[a,b]:=by
 obtain⟨a,r,rfl,h1⟩:=zvr h
 obtain⟨b,q,rfl,h2⟩:=zvr h1
 exact⟨a,b,by rw[len0 h2]⟩
theorem len4 {α:Type}{l:List α} (h:4=l.length):∃a b c d,l=[a,b,c,d]:=by
 obtain⟨a,r,rfl,h1⟩:=zvr h
 obtain⟨b,q,rfl,h2⟩:=zvr h1
 obtain⟨c,d,rfl⟩:=zyf h2
 exact⟨a,b,c,d,rfl⟩
theorem fa {α:Type}{P:α→Prop}{a:α}{l:List α} (h:P a) (r:∀t∈l,P t):∀t∈a::l,P t:=List.forall_mem_cons.mpr ⟨h,r⟩
end Mine.Internal
end

noncomputable section
open PySem PySem.Builtin.Int
namespace Mine.Internal
theorem za {F:Fns}{N:Nat}{ρ ρ':zc}{u:U}{r:List U} (h:ex F N ρ u=some (.next,ρ')):exs F N ρ (u::r)=exs F N ρ' r:=by simp only[zcX,h,Option.bind_some,ztX]
theorem zaz {F:Fns}{N:Nat}{ρ ρ':zc}{u:U}{r:List U}{d:D} (h:ex F N ρ u=some (.ret d,ρ')):exs F N ρ (u::r)=some (.ret d,ρ'):=by simp only[zcX,h,Option.bind_some,zwX]
theorem zbc {F:Fns}{N k:Nat}{us:List U}{ds:List D}{d:D}{ρ:zc} (h:exs F N (ds.map (λd=>some (.fz d))++List.replicate k none) us=some (.ret d,ρ)):zbJ F N k us ds=some d:=by simp only[zbJ,h,Option.bind_some,zsI]
theorem zO {F:Fns}{N:Nat}{ρ:zc}{e:T}{r:List U}{d:D} (h:ev F ρ e=some d) (h2:zkJ ρ d e=true):exs F N ρ (.ret e::r)=some (.ret d,ρ):=zaz (by simp only[zoh,h,Option.bind_some,h2,if_true])
section
variable {F:Fns}{N:Nat}{ρ ρ':zc}
theorem zk {o:Operator}{l r:T}{a b d:D} (h1:ev F ρ l=some a) (h2:ev F ρ r=some b) (h3:zcs o a b=some d):ev F ρ (.bin o l r)=some d:=by simp only[zbG,h1,h2,Option.bind_some,h3]
theorem zol {o:UnaryOp}{e:T}{a d:D} (h1:ev F ρ e=some a) (h3:un1 o a=some d):ev F ρ (.un o e)=some d:=by simp only[zvO,h1,Option.bind_some,h3]
theorem zkl {l r:T}{a b d:D} (h1:ev F ρ l=some a) (h2:ev F ρ r=some b) (h3:zho a b=some d):ev F ρ (.sub l r)=some d:=by simp only[zhW,h1,h2,Option.bind_some,h3]
theorem zax {o:CmpOp}{l r:T}{a b:D}{p:Bool} (h1:ev F ρ l=some a) (h2:ev F ρ r=some b) (h3:zhg o a b=some p):ev F ρ (.cmp o l r)=some (.bool p):=by simp only[zhY,h1,h2,Option.bind_some,h3,Option.map_some]
theorem zai {e:T}{d:D}{p:Bool} (h1:ev F ρ e=some d) (h3:zbH d=some p):tr F ρ (.val e)=some p:=by simp only[zkf,h1,Option.bind_some,h3]
theorem zvP {c:Q}{a b:T}{d:D} (h:tr F ρ c=some true) (h1:ev F ρ a=some d):ev F ρ (.ife c a b)=some d:=by simp only[zoj,h,Option.bind_some,if_true,h1]
theorem zvQ {c:Q}{a b:T}{d:D} (h:tr F ρ c=some false) (h1:ev F ρ b=some d):ev F ρ (.ife c a b)=some d:=by simp only[zoj,h,Option.bind_some,Bool.false_eq_true,if_false,h1]
theorem zm:evs F ρ []=some []:=rfl
theorem zb {e:T}{r:List T}{d:D}{ds:List D} (h1:ev F ρ e=some d) (h2:evs F ρ r=some ds):evs F ρ (e::r)=some (d::ds):=by simp only[zL,h1,h2,Option.bind_some]
theorem zx {f:Nat}{es:List T}{ds:List D}{d:D} (h1:evs F ρ es=some ds) (h2:F f ds=some d):ev F ρ (.call f es)=some d:=by simp only[zaw,h1,Option.bind_some,h2]
theorem zgg {es:List T}{ds:List D} (h1:evs F ρ es=some ds):ev F ρ (.tup es)=some (.tup ds):=by simp only[zki,h1,Option.map_some]
theorem zdU {m:Mth}{e:T}{es:List T}{a d:D}{ds:List D} (h1:ev F ρ e=some a) (h2:evs F ρ es=some ds) (h3:zeK m a ds=some d):ev F ρ (.meth m e es)=some d:=by simp only[zdS,h1,h2,Option.bind_some,h3]
theorem zcf {i:Nat}{e:T}{d:D} (h:ev F ρ e=some d) (hf:(zbp d || fre e)=true):ex F N ρ (.set i e)=some (.next,zaU ρ i (.fz d)):=by rw[zhV,h,Option.bind_some,if_pos hf]
theorem zge {is:List Nat}{e:T}{ds:List D} (h:ev F ρ e=some (.tup ds)) (hb:zal ρ is ds=some ρ'):ex F N ρ (.unp is e)=some (.next,ρ'):=by
 rw[zog,h]
 exact congrArg (Option.map λρ=>(Fl.next,ρ)) hb
theorem zco {c:Q}{a b:List U}{x:Option (Fl×zc)} (h:tr F ρ c=some false) (h2:exs F N ρ b=x):ex F N ρ (.ite c a b)=x:=by rw[zkd,h,Option.bind_some];exact h2
theorem zrC {i:Nat}{e:T}{d:D}{xs:List D} (h1:zck ρ i=some xs) (h2:ev F ρ e=some d) (h3:(zbp d && decide (xs.length≤2 ^ 20))=true):ex F N ρ (.app i e)=some (.next,zaU ρ i (.mu (xs++[d]))):=by rw[zrM,h1,Option.bind_some,h2,Option.bind_some,if_pos h3]
theorem zjI {a:Int}{n:Nat} (h:intBits a+n≤1048576):zcs .LShift (.int a) (.int n)=some (.int (a*2 ^ n)):=by
 rw[zH,zlp,if_pos ⟨Int.natCast_nonneg n,by have e:(2:Int) ^ 20=1048576:=rfl;exact zle h⟩,Int.toNat_natCast]
theorem zoV {n:Nat} (h:n < 1048576):zcs .LShift (.int 1) (.int n)=some (.int (2 ^ n)):=by
 have:=zjI (a:=1) (n:=n) (by have e:intBits (1:Int)=1:=rfl;lia)
 rw[Int.one_mul]at this
 exact this
theorem zhc {a c:Int}{n:Nat} (h:a.fdiv (2 ^ n)=c):zcs .RShift (.int a) (.int n)=some (.int c):=by
 rw[zH,zoA,if_pos (Int.natCast_nonneg n),Int.toNat_natCast,h]
theorem zxy {a b c:Int} (h:Builtin.bitOr a b=c):zcs .BitOr (.int a) (.int b)=some (.int c):=congrArg (λx=>some (D.int x)) h
theorem zoa {a b c:Int} (h:Builtin.bitAnd a b=c):zcs .BitAnd (.int a) (.int b)=some (.int c):=congrArg (λx=>some (D.int x)) h
theorem zmg {a b:Int} (h:intBits a+intBits b≤1048576):zcs .Mult (.int a) (.int b)=some (.int (a*b)):=by
 rw[zH,zlr,if_pos (show _≤2 ^ 20 from h)]
theorem zof {test:zc→Option Bool}{run:zc→Option (Fl×zc)}{k:Nat} (h:test ρ=some false):zjN test run (k+1) ρ=some (.next,ρ):=by rw[zvK,h];rfl
theorem zvL {test:zc→Option Bool}{run:zc→Option (Fl×zc)}{k:Nat}{x:Option (Fl×zc)} (h:test ρ=some true) (h2:run ρ=some (.next,ρ')) (h3:zjN test run k ρ'=x):zjN test run (k+1) ρ=x:=by
 rw[zvK,h,Option.bind_some,if_pos rfl,h2];exact h3
end
theorem zbf {F:Fns}{N:Nat}{ρ:zc}{c:Q}{a:List U} (h:tr F ρ c=some false):ex F N ρ (.ite c a [])=some (.next,ρ):=by
 simp only[zkd,h,Option.bind_some,zkc]
 rfl
theorem zbe {F:Fns}{N:Nat}{ρ:zc}{c:Q}{a b:List U}{x:Option (Fl×zc)} (h:tr F ρ c=some true) (h2:exs F N ρ a=x):ex F N ρ (.ite c a b)=x:=by
 simp only[zkd,h,Option.bind_some,if_true,h2]
theorem zbu {F:Fns}{N:Nat}{ρ:zc}{i:Nat}{o:Operator}{e:T}{a b d:D} (h1:zbd ρ i=some a) (h2:ev F ρ e=some b) (h3:zmj o a b=some d):ex F N ρ (.aug i o e)=some (.next,zaU ρ i (.fz d)):=by
 simp only[zrL,h1,h2,h3,Option.bind_some,Option.map_some]
section
variable {F:Fns}{N:Nat}{ρ ρ':zc}
theorem zrB {i:Nat}{ix e:T}{d:D}{xs xs':List D}{k:Int} (h1:ev F ρ e=some d) (h2:zck ρ i=some xs) (h3:ev F ρ ix=some (.int k)) (h4:(zbp d && decide (xs.length≤2 ^ 20))=true) (h5:zeH xs k d=some xs'):ex F N ρ (.seti i ix e)=some (.next,zaU ρ i (.mu xs')):=by
 rw[zpe,h1,Option.bind_some,h2,Option.bind_some,h3,Option.bind_some,zkT,if_pos h4,h5];rfl
theorem zuS {a k:Int} (h:0≤k) (h2:(intBits a:Int)+k≤1048576):zcs .LShift (.int a) (.int k)=some (.int (a*2 ^ k.toNat)):=by rw[zH,zlp,if_pos ⟨h,h2⟩]
theorem zuR {a k:Int} (h:0≤k):zcs .RShift (.int a) (.int k)=some (.int (a.fdiv (2 ^ k.toNat))):=by rw[zH,zoA,if_pos h]
theorem zdu {u:U}{r:List U}{x:Option (Fl×zc)} (h:ex F N ρ u=some (.next,ρ')) (k:exs F N ρ' r=x):exs F N ρ (u::r)=x:=by rw[zcX,h];exact k
theorem zse {q:Q}{p:Bool} (h:tr F ρ q=some p):tr F ρ (.not q)=some (!p):=by rw[zrN,h];rfl
theorem zwc {q:Q} (h:tr F ρ q=some true):trs F ρ [q]=some true:=by rw[zkg,h];rfl
theorem zsd {q:Q} (h:tr F ρ q=some false):trs F ρ [q]=some false:=by rw[zkg,h];rfl
theorem ztZ {n:Nat}{is:List Nat}{run:zc→Option (Fl×zc)}{d:D}{ds:List D}{xs:List D}{ρ1 ρ2:zc}{x:Option (Fl×zc)} (h1:zfW n d=some xs) (h2:zal ρ is xs=some ρ1) (h3:run ρ1=some (.next,ρ2)) (h4:zjy n is run ds ρ2=x):zjy n is run (d::ds) ρ=x:=by
 rw[zua,h1,Option.bind_some,h2,Option.bind_some,h3];exact h4
end
end Mine.Internal
end

noncomputable section
open PySem
set_option maxRecDepth 10000
namespace Mine.Internal
noncomputable def zaa:List U:=[.ite (.val (.cmp .NotIn (.lit (.str [34])) (.var 0))) [.ret (.var 0)] [],
  .set 1 (.lit (.int 0)),
  .set 2 (.lit .none),
  .new 3 (.list []),
  .for_ 2 [4,5] (.call 20 [.var 0]) [.ite (.val (.cmp .Eq (.var 5) (.lit (.str [34])))) [.ite (.val (.cmp .Is (.var 2) (.lit .none))) [.set 2 (.var 4)] [.ite (.val (.cmp .NotEq (.var 1) (.var 2))) [.app 3 (.slc (.var 0) (.var 1) (.var 2) (.lit .none))] [],
  .set 1 (.bin .Add (.var 4) (.lit (.int 1))),
  .set 2 (.lit .none)]] []],
  .ite (.val (.cmp .Lt (.var 1) (.call 0 [.var 0]))) [.app 3 (.slc (.var 0) (.var 1) (.lit .none) (.lit .none))] [],
  .ret (.meth .join (.lit (.str [])) [.var 3])]
noncomputable def zY:List String:=["addr","start","open_pos","result","pos","ch"]
noncomputable def zaS:List U:=[.set 0 (.call 21 [.var 0]),
  .set 1 (.lit (.int 0)),
  .for_ 2 [2,3] (.call 20 [.var 0]) [.ite (.val (.cmp .Eq (.var 3) (.lit (.str [40])))) [.aug 1 .Add (.lit (.int 1))] [.ite (.val (.cmp .Eq (.var 3) (.lit (.str [41])))) [.aug 1 .Sub (.lit (.int 1)),
  .ite (.val (.cmp .Lt (.var 1) (.lit (.int 0)))) [.ret (.lit (.bool false))] []] []]],
  .ret (.cmp .Eq (.var 1) (.lit (.int 0)))]
noncomputable def zaN:List String:=["addr","opens","pos","ch"]
noncomputable def zbm:List U:=[.ite (.val (.cmp .LtE (.bin .Sub (.meth .bits (.var 0) []) (.var 2)) (.call 50 []))) [.ret (.call 7 [.var 0,.var 1])] [],
  .set 3 (.bin .BitAnd (.var 2) (.lit (.int 1))),
  .ite (.val (.var 3)) [.aug 0 .LShift (.lit (.int 1)),
  .aug 1 .LShift (.lit (.int 1)),
  .aug 2 .Add (.lit (.int 1))] [],
  .set 4 (.bin .RShift (.var 2) (.lit (.int 1))),
  .set 5 (.bin .Sub (.bin .LShift (.lit (.int 1)) (.var 4)) (.lit (.int 1))),
  .unp [6,7] (.tup [.bin .RShift (.var 1) (.var 4),.bin .BitAnd (.var 1) (.var 5)]),
  .unp [8,9] (.call 24 [.bin .RShift (.var 0) (.var 2),.bin .BitAnd (.bin .RShift (.var 0) (.var 4)) (.var 5),.var 1,.var 6,.var 7,.var 4]),
  .unp [10,9] (.call 24 [.var 9,.bin .BitAnd (.var 0) (.var 5),.var 1,.var 6,.var 7,.var 4]),
  .ite (.val (.var 3)) [.aug 9 .RShift (.lit (.int 1))] [],
  .ret (.tup [.bin .BitOr (.bin .LShift (.var 8) (.var 4)) (.var 10),.var 9])]
noncomputable def zgK:List String:=["a","b","n","pad","half_n","mask","b1","b2","q1","r","q2"]
noncomputable def zat:List U:=[.ite (.val (.cmp .Eq (.bin .RShift (.var 0) (.var 5)) (.var 3))) [.unp [6,7] (.tup [.bin .Sub (.bin .LShift (.lit (.int 1)) (.var 5)) (.lit (.int 1)),.bin .Add (.bin .Sub (.var 0) (.bin .LShift (.var 3) (.var 5))) (.var 3)])] [.unp [6,7] (.call 23 [.var 0,.var 3,.var 5])],
  .set 7 (.bin .Sub (.bin .BitOr (.bin .LShift (.var 7) (.var 5)) (.var 1)) (.bin .Mult (.var 6) (.var 4))),
  .whl (.val (.cmp .Lt (.var 7) (.lit (.int 0)))) [.aug 6 .Sub (.lit (.int 1)),
  .aug 7 .Add (.var 2)],
  .ret (.tup [.var 6,.var 7])]
noncomputable def zgJ:List String:=["a12","a3","b","b1","b2","n","q","r"]
noncomputable def zbQ:List U:=[.set 2 (.meth .bits (.var 1) []),
  .set 3 (.call 25 [.var 0,.var 2]),
  .set 4 (.lit (.int 0)),
  .new 5 (.list []),
  .for_ 0 [6] (.call 9 [.var 3]) [.unp [7,4] (.call 23 [.bin .Add (.bin .LShift (.var 4) (.var 2)) (.var 6),.var 1,.var 2]),
  .app 5 (.var 7)],
  .rev 5,
  .set 8 (.call 26 [.var 5,.var 2]),
  .ret (.tup [.var 8,.var 4])]
noncomputable def zdt:List String:=["a","b","n","a_digits","r","q_digits","a_digit","q_digit","q"]
noncomputable def zbP:List U:=[.ite (.val (.cmp .Eq (.var 1) (.lit (.int 0)))) [.fail] [.ite (.val (.cmp .Lt (.var 1) (.lit (.int 0)))) [.unp [2,3] (.call 28 [.un .USub (.var 0),.un .USub (.var 1)]),
  .ret (.tup [.var 2,.un .USub (.var 3)])] [.ite (.val (.cmp .Lt (.var 0) (.lit (.int 0)))) [.unp [2,3] (.call 28 [.un .Invert (.var 0),.var 1]),
  .ret (.tup [.un .Invert (.var 2),.bin .Add (.var 1) (.un .Invert (.var 3))])] [.ret (.call 27 [.var 0,.var 1])]]]]
noncomputable def zds:List String:=["a","b","q","r"]
noncomputable def zez:List U:=[.new 3 (.list []),
  .new 4 (.list []),
  .for_ 0 [5] (.call 8 [.call 0 [.var 0]]) [.ite (.val (.cmp .Eq (.sub (.var 0) (.var 5)) (.var 2))) [.app 3 (.var 5)] [.ite (.and (.val (.cmp .Eq (.sub (.var 0) (.var 5)) (.var 1))) (.val (.cmp .NotEq (.var 3) (.list [])))) [.pop 3] [.ite (.val (.cmp .Eq (.sub (.var 0) (.var 5)) (.var 1))) [.app 4 (.var 5)] []]]],
  .ret (.tup [.var 4,.var 3])]
noncomputable def zei:List String:=["word","lesser","greater","waiting","alone","k"]
noncomputable def zeA:List U:=[.set 2 (.lit (.int 0)),
  .whl (.val (.cmp .Lt (.var 2) (.lit (.int 2)))) [.set 3 (.sub (.call 60 [.var 0,.sub (.sub (.var 1) (.var 2)) (.lit (.int 0)),.sub (.sub (.var 1) (.var 2)) (.lit (.int 1))]) (.lit (.int 1))),
  .ite (.val (.cmp .NotEq (.var 3) (.list []))) [.set 0 (.bin .Add (.bin .Add (.slc (.var 0) (.lit .none) (.sub (.var 3) (.lit (.int 0))) (.lit .none)) (.sub (.sub (.var 1) (.var 2)) (.lit (.int 0)))) (.slc (.var 0) (.bin .Add (.sub (.var 3) (.lit (.int 0))) (.lit (.int 1))) (.lit .none) (.lit .none))),
  .set 2 (.lit (.int 0))] [.aug 2 .Add (.lit (.int 1))]],
  .ret (.var 0)]
noncomputable def zej:List String:=["word","pairs","k","waiting"]
noncomputable def zeB:List U:=[.new 1 (.list [.var 0]),
  .set 2 (.lit (.int 0)),
  .whl (.val (.cmp .Lt (.var 2) (.call 0 [.var 1]))) [.for_ 0 [3] (.it (.list [.lit (.str [102,105]),.lit (.str [105,108])])) [.set 4 (.sub (.call 60 [.sub (.var 1) (.var 2),.sub (.var 3) (.lit (.int 0)),.sub (.var 3) (.lit (.int 1))]) (.lit (.int 0))),
  .ite (.val (.cmp .NotEq (.var 4) (.list []))) [.set 5 (.bin .Add (.bin .Add (.slc (.sub (.var 1) (.var 2)) (.lit .none) (.sub (.var 4) (.un .USub (.lit (.int 1)))) (.lit .none)) (.sub (.var 3) (.lit (.int 1)))) (.slc (.sub (.var 1) (.var 2)) (.bin .Add (.sub (.var 4) (.un .USub (.lit (.int 1)))) (.lit (.int 1))) (.lit .none) (.lit .none))),
  .ite (.val (.cmp .NotIn (.var 5) (.var 1))) [.app 1 (.var 5)] []] []],
  .aug 2 .Add (.lit (.int 1))],
  .ret (.var 1)]
noncomputable def zek:List String:=["word","words","k","pair","alone","further"]
noncomputable def zT:List U:=[.new 5 (.list []),
  .for_ 0 [6] (.it (.var 0)) [.set 7 (.bin .Add (.bin .Mult (.lit (.str [40])) (.call 4 [.lit (.int 0),.bin .Sub (.meth .count (.var 6) [.var 1]) (.meth .count (.var 6) [.var 2])])) (.repl (.repl (.repl (.var 6) (.var 3) (.var 4)) (.var 2) (.lit (.str [40]))) (.var 1) (.lit (.str [41])))),
  .ite (.val (.call 22 [.var 7])) [.app 5 (.var 6)] []],
  .ret (.var 5)]
noncomputable def zeh:List String:=["words","lesser","greater","third","hidden","taken","word","text"]
noncomputable def zcW:List U:=[.ret (.bin .Add (.bin .Add (.bin .Mult (.bin .Pow (.var 0) (.var 3)) (.bin .Sub (.bin .Mult (.bin .Pow (.var 1) (.var 4)) (.bin .Pow (.var 2) (.var 5))) (.bin .Mult (.bin .Pow (.var 2) (.var 4)) (.bin .Pow (.var 1) (.var 5))))) (.bin .Mult (.bin .Pow (.var 1) (.var 3)) (.bin .Sub (.bin .Mult (.bin .Pow (.var 2) (.var 4)) (.bin .Pow (.var 0) (.var 5))) (.bin .Mult (.bin .Pow (.var 0) (.var 4)) (.bin .Pow (.var 2) (.var 5)))))) (.bin .Mult (.bin .Pow (.var 2) (.var 3)) (.bin .Sub (.bin .Mult (.bin .Pow (.var 0) (.var 4)) (.bin .Pow (.var 1) (.var 5))) (.bin .Mult (.bin .Pow (.var 1) (.var 4)) (.bin .Pow (.var 0) (.var 5))))))]
noncomputable def zgI:List String:=["x","y","z","p","q","r"]
noncomputable def zaR:List U:=[.set 1 (.bin .Add (.list [.lit (.int 173),.lit (.int 847),.lit (.int 6150),.lit (.int 6155),.lit (.int 6156),.lit (.int 6157),.lit (.int 8203),.lit (.int 8204),.lit (.int 8205),.lit (.int 8288),.lit (.int 65279)]) (.lrg [.lit (.int 65024),.lit (.int 65040)])),
  .set 2 (.lit (.str [])),
  .set 3 (.lit (.str [])),
  .for_ 0 [4] (.it (.bin .Add (.slc (.var 0) (.lit .none) (.lit (.int 4)) (.lit .none)) (.slc (.list [.lit (.int 1),.lit (.int 6),.lit (.int 3),.lit (.int 4)]) (.call 0 [.var 0]) (.lit .none) (.lit .none)))) [.set 5 (.sub (.list [.lit (.str [102,105]),.lit (.str [102,108]),.lit (.str [102,102]),.lit (.str [102,102,105]),.lit (.str [102,102,108]),.lit (.str [102]),.lit (.str [105]),.lit (.str [108]),.lit (.str [102]),.lit (.str [105]),.lit (.str [108]),.lit (.str [102]),.lit (.str [105]),.lit (.str [108])]) (.bin .Mod (.var 4) (.lit (.int 14)))),
  .ite (.val (.cmp .Lt (.call 0 [.bin .Add (.var 2) (.var 5)]) (.lit (.int 5)))) [.aug 2 .Add (.var 5),
  .aug 3 .Add (.call 5 [.sub (.list [.lit (.int 64257),.lit (.int 64258),.lit (.int 64256),.lit (.int 64259),.lit (.int 64260),.lit (.int 70),.lit (.int 73),.lit (.int 76),.lit (.int 8497),.lit (.int 8464),.lit (.int 8466),.lit (.int 119813),.lit (.int 119816),.lit (.int 119819)]) (.bin .Mod (.var 4) (.lit (.int 14)))]),
  .aug 3 .Add (.call 5 [.sub (.var 1) (.bin .Mod (.bin .FloorDiv (.var 4) (.lit (.int 14))) (.lit (.int 27)))])] []],
  .ite (.val (.cmp .NotEq (.meth .join (.lit (.str [])) [.comp 0 [] (.it (.var 3)) [.not (.val (.call 30 [.var 0]))] (.call 31 [.var 0])]) (.var 2))) [.ret (.lit (.bool false))] [],
  .set 6 (.call 61 [.var 2,.list [.lit (.str [102,105]),.lit (.str [105,108])]]),
  .set 7 (.call 62 [.var 6]),
  .set 8 (.callt 63 (.var 7) [[102],[105],[108],[92,40]]),
  .set 9 (.callt 63 (.var 7) [[105],[108],[102],[34,41,34]]),
  .ite (.val (.cmp .NotEq (.call 2 [.comp 0 [] (.it (.var 8)) [] (.bin .Sub (.bin .Add (.lit (.int 1)) (.meth .count (.var 0) [.lit (.str [102])])) (.meth .count (.var 0) [.lit (.str [105])]))]) (.call 0 [.var 7]))) [.ret (.lit (.bool false))] [],
  .ite (.val (.cmp .NotEq (.call 2 [.comp 0 [] (.it (.var 9)) [] (.bin .Sub (.bin .Add (.lit (.int 1)) (.meth .count (.var 0) [.lit (.str [105])])) (.meth .count (.var 0) [.lit (.str [108])]))]) (.call 0 [.var 7]))) [.ret (.lit (.bool false))] [],
  .ite (.val (.cmp .NotEq (.comp 0 [8,9] (.it (.var 7)) [.and (.val (.cmp .In (.var 0) (.var 1))) (.val (.cmp .In (.var 0) (.var 2)))] (.var 0)) (.list [.call 61 [.var 2,.list [.lit (.str [105,108]),.lit (.str [102,105])]]]))) [.ret (.lit (.bool false))] [],
  .set 10 (.call 2 [.var 0]),
  .set 11 (.bin .Add (.slc (.var 0) (.lit (.int 4)) (.lit (.int 7)) (.lit .none)) (.slc (.list [.un .USub (.lit (.int 3)),.lit (.int 6),.lit (.int 1)]) (.call 0 [.slc (.var 0) (.lit (.int 4)) (.lit (.int 7)) (.lit .none)]) (.lit .none) (.lit .none))),
  .set 12 (.ife (.val (.cmp .Gt (.sub (.var 11) (.lit (.int 0))) (.lit (.int 0)))) (.bin .Mod (.sub (.var 11) (.lit (.int 0))) (.bin .Pow (.lit (.int 10)) (.lit (.int 600)))) (.un .USub (.bin .Mod (.un .USub (.sub (.var 11) (.lit (.int 0)))) (.bin .Pow (.lit (.int 10)) (.lit (.int 600)))))),
  .set 13 (.bin .Add (.bin .Add (.var 12) (.lit (.int 1))) (.bin .Mod (.sub (.var 11) (.lit (.int 1))) (.bin .Pow (.lit (.int 10)) (.lit (.int 600))))),
  .set 14 (.bin .Sub (.bin .Sub (.var 12) (.lit (.int 1))) (.bin .Mod (.sub (.var 11) (.lit (.int 2))) (.bin .Pow (.lit (.int 10)) (.lit (.int 600))))),
  .set 15 (.bin .Add (.meth .count (.var 6) [.lit (.str [102])]) (.lit (.int 2))),
  .set 16 (.bin .Add (.meth .count (.var 6) [.lit (.str [105])]) (.lit (.int 1))),
  .set 17 (.meth .count (.var 6) [.lit (.str [108])]),
  .set 18 (.call 2 [.comp 0 [14,12,13] (.it (.var 7)) [] (.bin .Mult (.bin .Mult (.bin .Pow (.var 2) (.meth .count (.var 0) [.lit (.str [102])])) (.bin .Pow (.var 3) (.meth .count (.var 0) [.lit (.str [105])]))) (.bin .Pow (.var 1) (.meth .count (.var 0) [.lit (.str [108])])))]),
  .set 19 (.call 64 [.var 12,.var 13,.var 14,.lit (.int 2),.lit (.int 1),.lit (.int 0)]),
  .set 20 (.bin .Mod (.var 10) (.var 19)),
  .ite (.val (.cmp .NotEq (.call 28 [.bin .Add (.call 64 [.var 12,.var 13,.var 14,.var 15,.var 16,.var 17]) (.var 20),.var 19]) (.tup [.var 18,.var 20]))) [.ret (.lit (.bool false))] [],
  .set 21 (.bin .Add (.lit (.int 5)) (.bin .Mod (.bin .FloorDiv (.var 10) (.lit (.int 6))) (.lit (.int 60)))),
  .set 22 (.bin .Pow (.lit (.int 2)) (.var 21)),
  .unp [23,24] (.call 28 [.call 64 [.lit (.int 1),.var 22,.bin .Pow (.var 22) (.lit (.int 5)),.var 15,.var 16,.var 17],.call 64 [.lit (.int 1),.var 22,.bin .Pow (.var 22) (.lit (.int 5)),.lit (.int 2),.lit (.int 1),.lit (.int 0)]]),
  .set 25 (.sub (.list [.lit (.str [105,108]),.lit (.str [108,102]),.lit (.str [102,105]),.lit (.str [108,105]),.lit (.str [102,108]),.lit (.str [105,102])]) (.bin .Mod (.var 10) (.lit (.int 6)))),
  .set 26 (.comp 0 [25] (.it (.var 7)) [] (.bin .Add (.meth .count (.var 0) [.sub (.var 1) (.lit (.int 0))]) (.bin .Mult (.lit (.int 5)) (.meth .count (.var 0) [.sub (.var 1) (.lit (.int 1))])))),
  .ret (.and (.cmp .Eq (.var 24) (.lit (.int 0))) (.cmp .Eq (.call 25 [.var 23,.var 21]) (.comp 0 [26] (.call 8 [.bin .Add (.call 4 [.var 26]) (.lit (.int 1))]) [] (.meth .count (.var 1) [.var 0]))))]
noncomputable def zov:List String:=["script","unseen","word","spelled","number","letters","first","words","heads","others","total","three","x","y","z","p","q","r","whole","under","added","width","base","quotient","rest","pair","places"]
end Mine.Internal
end

noncomputable section
open PySem
namespace Mine.Internal
noncomputable def zbI (w a b c e:List Nat):Option D :=
 (zcs .Mult (.str [40]) (.int (if (Txt.count ⟨w.toArray⟩ ⟨a.toArray⟩:Int) - (Txt.count ⟨w.toArray⟩ ⟨b.toArray⟩:Int) > 0 then(Txt.count ⟨w.toArray⟩ ⟨a.toArray⟩:Int) - (Txt.count ⟨w.toArray⟩ ⟨b.toArray⟩:Int) else 0))).bind λp =>
 (zdY w c e).bind λd1=>zaT d1 λx1=>(zdY x1 b [40]).bind λd2=>zaT d2 λx2=>(zdY x2 a [41]).bind λd3=>zcs .Add p d3
noncomputable def zdp (F:Fns) (a b c e:List Nat):List D→Option (List D)
 | []=>some []
 | d::r=>zaT d λw=>(zbI w a b c e).bind λx=>(F 22 [x]).bind λt=>zkU t λt=>(zdp F a b c e r).map λys=>if t then .str w::ys else ys
noncomputable def zku (F:Fns) (ds:List D):Option D:=onC ds λd r=>zad d λws=>(zcZ r).bind λl=>on4 l λa b c e=>if ws.length≤2 ^ 20 then(zdp F a b c e ws).map .list else none
theorem zwr {x y z:List Nat}{d:D} (h:zdY x y z=some d):∃u,d = .str u:=by
 refine xA (ziy h) λ_ h=>?_
 exact⟨_,zp h⟩
theorem add_str {p d r:D} (h:zcs .Add p d=some r) {u:List Nat} (hd:d = .str u):∃v,r = .str v:=by
 subst hd
 cases p<;>first | exact zl (show Option.none=some r from h) | skip
 refine xA (ziy (show(if _ then _ else Option.none)=some r from h)) λ_ h=>?_
 exact⟨_,zp h⟩
theorem zmK {w a b c e:List Nat}{x:D} (h:zbI w a b c e=some x):∃u,x = .str u:=by
 refine xEA (zcr h) λp h1 g1=>?_
 refine xEA (zcr g1) λd1 h2 g2=>?_
 refine xEA (zF g2) λx1 _ g3=>?_
 refine xEA (zcr g3) λd2 h4 g4=>?_
 refine xEA (zF g4) λx2 _ g5=>?_
 refine xEA (zcr g5) λd3 h6 g6=>?_
 refine xE (zwr h6) λx3 e3=>?_
 exact add_str g6 e3
noncomputable def zpw:T:=.bin .Add (.bin .Mult (.lit (.str [40])) (.call 4 [.lit (.int 0),.bin .Sub (.meth .count (.var 6) [.var 1]) (.meth .count (.var 6) [.var 2])])) (.repl (.repl (.repl (.var 6) (.var 3) (.var 4)) (.var 2) (.lit (.str [40]))) (.var 1) (.lit (.str [41])))
noncomputable def zcT:List U:=[.set 7 zpw,.ite (.val (.call 22 [.var 7])) [.app 5 (.var 6)] []]
theorem zmL:zT=[.new 5 (.list []),.for_ 0 [6] (.it (.var 0)) zcT,.ret (.var 5)]:=rfl
structure TkOk (t1 t2 t3 t4:Nat) (K:Int):Prop where
 p1:0 < t1
 p2:0 < t2
 p3:0 < t3
 p4:0 < t4
 l1:(t1:Int) < K
 l2:(t2:Int) < K
 ne:t3≠t4
theorem zpv {F:Fns}{K:Int}{ws:List D}{acc:List D}{a b c e w:List Nat}{t1 t2 t3 t4:Nat}{o7:Option B} (h4:∀n:Int,F 4 [.int 0,.int n]=some (.int (if n > 0 then n else 0))) (h99:F 99 []=some (.int K)) (v:TkOk t1 t2 t3 t4 K) :
  ev F [some (.fz (.list ws)),some (.fz (.tk a t1)),some (.fz (.tk b t2)),some (.fz (.tk c t3)),some (.fz (.tk e t4)),some (.mu acc),some (.fz (.str w)),o7] zpw=zbI w a b c e:=by
 obtain⟨p1,p2,p3,p4,l1,l2,ne⟩:=v
 simp only[zpw,zaK,zas,zbG,zaw,zdS,zpg,zaJ,zL,zqx,zoB,Option.bind_some,zkS,znj,h99,RA.of_tk,RA.of_lit]
 have e1:zcs .Sub (.int (Txt.count ⟨w.toArray⟩ ⟨a.toArray⟩)) (.int (Txt.count ⟨w.toArray⟩ ⟨b.toArray⟩))=some (.int ((Txt.count ⟨w.toArray⟩ ⟨a.toArray⟩:Int) - (Txt.count ⟨w.toArray⟩ ⟨b.toArray⟩:Int))):=rfl
 simp only[e1,Option.bind_some,h4]
 unfold zbI
 have r1:zht (some (.int K)) w (.tk c t3) (.tk e t4)=zdY w c e:=if_pos ⟨p3,p4,ne⟩
 have r2:∀x,zht (some (.int K)) x (.tk b t2) (.lit [40])=zdY x b [40]:=λx=>if_pos ⟨p2,l2⟩
 have r3:∀x,zht (some (.int K)) x (.tk a t1) (.lit [41])=zdY x a [41]:=λx=>if_pos ⟨p1,l1⟩
 simp only[r1,r2,r3,Option.bind_assoc,zji]
theorem zcY {F:Fns}{N:Nat}{K:Int}{ws:List D}{a b c e:List Nat}{t1 t2 t3 t4:Nat} (h4:∀n:Int,F 4 [.int 0,.int n]=some (.int (if n > 0 then n else 0))) (h99:F 99 []=some (.int K)) (v:TkOk t1 t2 t3 t4 K) :
  ∀(r ys acc:List D) (o6 o7:Option B),zdp F a b c e r=some ys→acc.length+r.length≤2 ^ 20 →
   ∃o6' o7',zjy 0 [6] (λρ=>exs F N ρ zcT) r [some (.fz (.list ws)),some (.fz (.tk a t1)),some (.fz (.tk b t2)),some (.fz (.tk c t3)),some (.fz (.tk e t4)),some (.mu acc),o6,o7] =
    some (.next,[some (.fz (.list ws)),some (.fz (.tk a t1)),some (.fz (.tk b t2)),some (.fz (.tk c t3)),some (.fz (.tk e t4)),some (.mu (acc++ys)),o6',o7'])
 | [],ys,acc,o6,o7,h,_=>by
  cases h
  exact⟨o6,o7,by rw[List.append_nil];rfl⟩
 | d::r,ys,acc,o6,o7,h,hl=>by
  refine xEA (zF h) λw q1_ g1=>?_;subst q1_
  refine xEA (zcr g1) λx h1 g2=>?_
  refine xE (zmK h1) λu q1_=>?_;subst q1_
  refine xEA (zcr g2) λdt ht' g3=>?_
  refine xEA (zec g3) λt q1_ g4=>?_;subst q1_
  refine xEA (zhf g4) λzs h3 q2_=>?_;subst q2_
  have ht:F 22 [.str u]=some (.bool t):=ht'
  rw[List.length_cons]at hl
  have hb:zal [some (.fz (.list ws)),some (.fz (.tk a t1)),some (.fz (.tk b t2)),some (.fz (.tk c t3)),some (.fz (.tk e t4)),some (.mu acc),o6,o7] [6] [.str w] =
   some [some (.fz (.list ws)),some (.fz (.tk a t1)),some (.fz (.tk b t2)),some (.fz (.tk c t3)),some (.fz (.tk e t4)),some (.mu acc),some (.fz (.str w)),o7]:=rfl
  have hbody:exs F N [some (.fz (.list ws)),some (.fz (.tk a t1)),some (.fz (.tk b t2)),some (.fz (.tk c t3)),some (.fz (.tk e t4)),some (.mu acc),some (.fz (.str w)),o7] zcT =
    some (.next,[some (.fz (.list ws)),some (.fz (.tk a t1)),some (.fz (.tk b t2)),some (.fz (.tk c t3)),some (.fz (.tk e t4)),some (.mu (if t then acc++[.str w] else acc)),some (.fz (.str w)),some (.fz (.str u))]):=by
   have ha:acc.length≤2 ^ 20:=by omega
   unfold zcT
   refine(za (zcf ((zpv h4 h99 v).trans h1) rfl)).trans ?_
   have tt:tr F [some (.fz (.list ws)),some (.fz (.tk a t1)),some (.fz (.tk b t2)),some (.fz (.tk c t3)),some (.fz (.tk e t4)),some (.mu acc),some (.fz (.str w)),some (.fz (.str u))] (.val (.call 22 [.var 7]))=some t:=zai (zx (zb rfl zm) ht) rfl
   cases t with
   | true=>exact(za (zbe tt ((za (zrC (d:=.str w) (xs:=acc) rfl rfl (decide_eq_true ha))).trans rfl))).trans rfl
   | false=>exact(za (zbf tt)).trans rfl
  cases t with
  | true =>
   obtain⟨o6',o7',e1⟩:=zcY h4 h99 v r zs (acc++[.str w]) (some (.fz (.str w))) (some (.fz (.str u))) h3 (by simp;omega)
   refine⟨o6',o7',?_⟩
   rw[if_pos rfl]at hbody
   rw[List.append_assoc]at e1
   exact ztZ rfl hb hbody e1
  | false =>
   obtain⟨o6',o7',e1⟩:=zcY h4 h99 v r zs acc (some (.fz (.str w))) (some (.fz (.str u))) h3 (by omega)
   refine⟨o6',o7',?_⟩
   rw[if_neg (by decide)]at hbody
   exact ztZ rfl hb hbody e1
theorem zeW {F:Fns}{a b c e:List Nat}:∀{ws ys:List D},zdp F a b c e ws=some ys→zg ws=true∧zg ys=true
 | [],ys,h=>by cases h;exact⟨rfl,rfl⟩
 | d::r,ys,h=>by
  refine xEA (zF h) λw q1_ g1=>?_;subst q1_
  refine xEA (zcr g1) λx h1 g2=>?_
  refine xEA (zcr g2) λdt _ g3=>?_
  refine xEA (zec g3) λt _ g4=>?_
  refine xEA (zhf g4) λzs h3 q2_=>?_;subst q2_
  refine xA (zeW h3) λf1 f2=>?_
  refine⟨f1,?_⟩
  cases t<;>exact f2
theorem zkt {F:Fns}{N:Nat}{K:Int}{ws ys:List D}{a b c e:List Nat}{t1 t2 t3 t4:Nat} (h4:∀n:Int,F 4 [.int 0,.int n]=some (.int (if n > 0 then n else 0))) (h99:F 99 []=some (.int K)) (v:TkOk t1 t2 t3 t4 K)
  (h:zdp F a b c e ws=some ys) (hl:ws.length≤2 ^ 20):zbJ F N 3 zT [.list ws,.tk a t1,.tk b t2,.tk c t3,.tk e t4]=some (.list ys):=by
 refine xA (zeW h) λf1 f2=>?_
 refine xEE (zcY (N:=N) h4 h99 v (ws:=ws) ws ys [] none none h (by simpa using hl)) λo6 o7 e1=>?_
 rw[zmL]
 simp only[zbJ,List.map_cons,List.map_nil,List.replicate,List.cons_append,List.nil_append,zkc,zcX,zoi,zoh,zke,zas,zhl,zaJ,zmr,if_true,Option.bind_some,zea,zwY,Bool.and_self,zaU,List.set_cons_succ,List.set_cons_zero,ziX,zxE,Option.isSome_some,Bool.true_or,zpf,zqx,zoB,zyl,zyi,f1,fr_v,e1,ztX]
 simp[zkJ,muV,zxE,mu_s,mu_m,f2]
end Mine.Internal
end

noncomputable section
open PySem PySem.Calls PyProof.Rows
namespace Mine.Internal
noncomputable abbrev sv (x:List Nat):Str:=⟨x.toArray⟩
mutual
noncomputable def RV (h:Heap) (X:Addr→Prop):D→Value→Prop
 | .none,v=>v = .none
 | .bool b,v=>v = .bool b
 | .int i,v=>∃t,v = .int i t
 | .str x,v=>∃t,v = .str (sv x) t
 | .list xs,v=>∃a vs,v = .ref a∧h.PlainList a vs.toArray∧¬X a∧RVs h X xs vs
 | .tup xs,v=>∃a vs,v = .ref a∧h.IsTuple a vs.toArray∧RVs h X xs vs
 | .tk x t,v=>v = .str (sv x) t
noncomputable def RVs (h:Heap) (X:Addr→Prop):List D→List Value→Prop
 | [],vs=>vs=[]
 | d::ds,vs=>∃v r,vs=v::r∧RV h X d v∧RVs h X ds r
end
section
variable {h:Heap}{X:Addr→Prop}{v:Value}{vs:List Value}{d:D}{ds xs:List D}
theorem rq_l:RV h X (.list xs) v=∃a vs,v = .ref a∧h.PlainList a vs.toArray∧¬X a∧RVs h X xs vs:=rfl
theorem zya:RV h X (.tup xs) v=∃a vs,v = .ref a∧h.IsTuple a vs.toArray∧RVs h X xs vs:=rfl
theorem zvo {i:Int}:RV h X (.int i) v=∃t,v = .int i t:=rfl
theorem rq_b {b:Bool}:RV h X (.bool b) v=(v = .bool b):=rfl
theorem rq_n:RV h X .none v=(v = .none):=rfl
theorem zyb {x:List Nat}{t:Nat}:RV h X (.tk x t) v=(v = .str (sv x) t):=rfl
theorem ziY:RVs h X (d::ds) vs=∃v r,vs=v::r∧RV h X d v∧RVs h X ds r:=rfl
end
section
variable {h h':Heap}{X X':Addr→Prop}
mutual
theorem RV.to (hk:∀b o,h.get? b=some o→(o.cls = .type "list"∧¬X b∧∃xs n,o.data = .seq xs n)∨(o.cls = .type "tuple"∧∃xs n,o.data = .seq xs n)→h'.get? b=some o) (hx:∀a,X' a→X a∨h.get? a=none) :
  ∀{d:D}{v:Value},RV h X d v→RV h' X' d v
 | .none,_,r=>r
 | .bool _,_,r=>r
 | .int _,_,r=>r
 | .str _,_,r=>r
 | .tk _ _,_,r=>r
 | .list xs,v,r=>by
  simp only[rq_l]at r ⊢
  obtain⟨a,vs,rfl,⟨n,hl⟩,hxa,hr⟩:=r
  refine⟨a,vs,rfl,⟨n,hk _ _ hl (.inl ⟨rfl,hxa,_,_,rfl⟩)⟩,λq=>?_,RVs.to hk hx hr⟩
  rcases hx a q with q | q
  ·exact hxa q
  ·rw[hl]at q;cases q
 | .tup xs,v,r=>by
  simp only[zya]at r ⊢
  obtain⟨a,vs,rfl,⟨o,ho,hc,n,hd⟩,hr⟩:=r
  exact⟨a,vs,rfl,⟨o,hk _ _ ho (.inr ⟨hc,_,n,hd⟩),hc,n,hd⟩,RVs.to hk hx hr⟩
theorem RVs.to (hk:∀b o,h.get? b=some o→(o.cls = .type "list"∧¬X b∧∃xs n,o.data = .seq xs n)∨(o.cls = .type "tuple"∧∃xs n,o.data = .seq xs n)→h'.get? b=some o) (hx:∀a,X' a→X a∨h.get? a=none) :
  ∀{ds:List D}{vs:List Value},RVs h X ds vs→RVs h' X' ds vs
 | [],_,r=>r
 | d::ds,vs,r=>by
  simp only[ziY]at r ⊢
  refine zbb r λv q q2_ h1 h2=>?_;clear r;subst q2_
  exact⟨v,q,rfl,RV.to hk hx h1,RVs.to hk hx h2⟩
end
theorem RV.weak {d:D}{v:Value} (r:RV h X d v) (hx:∀a,X' a→X a):RV h X' d v:=r.to (λ_ _ e _=>e) λa q=>.inl (hx a q)
theorem RVs.weak {d:List D}{v:List Value} (r:RVs h X d v) (hx:∀a,X' a→X a):RVs h X' d v:=r.to (λ_ _ e _=>e) λa q=>.inl (hx a q)
mutual
theorem RV.flat:∀{d:D}{v:Value},zbp d=true→RV h X d v→RV h X' d v
 | .none,_,_,r=>r
 | .bool _,_,_,r=>r
 | .int _,_,_,r=>r
 | .str _,_,_,r=>r
 | .tk _ _,_,_,r=>r
 | .list xs,v,f,r=>(Bool.false_ne_true f).elim
 | .tup xs,v,f,r=>by
  simp only[zya]at r ⊢
  refine zbb r λa vs q2_ ho hr=>?_;clear r;subst q2_
  exact⟨a,vs,rfl,ho,RVs.flat (by simpa [fl_n,fl_b,zqG,zqF,fl_k,fl_t] using f) hr⟩
theorem RVs.flat:∀{ds:List D}{vs:List Value},zg ds=true→RVs h X ds vs→RVs h X' ds vs
 | [],_,_,r=>r
 | d::ds,vs,f,r=>by
  simp only[ziY]at r ⊢
  simp only[zde,Bool.and_eq_true]at f
  refine zbb r λv q q2_ h1 h2=>?_;clear r;subst q2_
  exact⟨v,q,rfl,RV.flat f.1 h1,RVs.flat f.2 h2⟩
end
theorem RVs.len:∀{ds:List D}{vs:List Value},RVs h X ds vs→vs.length=ds.length
 | [],_,r=>congrArg List.length (show _=[] from r)
 | d::ds,vs,r=>by
  simp only[ziY]at r
  refine zbb r λv q q2_ _ h2=>?_;clear r;subst q2_
  simp[RVs.len h2]
theorem RVs.at:∀{ds:List D}{vs:List Value}{i:Nat}{d:D},RVs h X ds vs→ds[i]? = some d→∃v,vs[i]? = some v∧RV h X d v
 | [],_,i,d,_,e=>by simp at e
 | d::ds,vs,i,d',r,e=>by
  simp only[ziY]at r
  refine zbb r λv q q2_ h1 h2=>?_;clear r;subst q2_
  cases i with
  | zero=>simp only[List.getElem?_cons_zero,Option.some.injEq]at e ⊢;exact⟨v,rfl,e▸h1⟩
  | succ i=>simp only[List.getElem?_cons_succ]at e ⊢;exact RVs.at h2 e
theorem RVs.append:∀{ds es:List D}{vs us:List Value},RVs h X ds vs→RVs h X es us→RVs h X (ds++es) (vs++us)
 | [],_,vs,_,r,q=>by rw[show vs=[] from r];exact q
 | d::ds,es,vs,us,r,q=>by
  simp only[ziY]at r
  refine zbb r λv q' q2_ h1 h2=>?_;clear r;subst q2_
  simp only[List.cons_append,ziY]
  exact⟨v,q'++us,rfl,h1,RVs.append h2 q⟩
theorem RVs.one {d:D}{v:Value} (r:RV h X d v):RVs h X [d] [v]:=⟨v,[],rfl,r,rfl⟩
theorem RVs.nil:RVs h X [] []:=rfl
theorem RVs.cons {d:D}{ds:List D}{v:Value}{vs:List Value} (r:RV h X d v) (q:RVs h X ds vs):RVs h X (d::ds) (v::vs):=⟨v,vs,rfl,r,q⟩
end
structure Wd where
 prog:Program
 w:World
 mg:Str→Option Value
 mb:Str→Option Value
 tk0:Nat
 X:Addr→Prop
 Sy:Addr→Prop
 G:Heap→Prop
 keep:∀{h h':Heap},G h→(∀b o,h.get? b=some o→Sy b∨(o.cls = .type "code"∧∃vs,o.data = .fields vs)→h'.get? b=some o)→G h'
 sy:∀{h:Heap}{b:Addr},G h→Sy b→h.get? b≠none
 xsy:∀b,X b→Sy b
 xcls:∀{h:Heap}{b:Addr}{o:Obj},G h→X b→h.get? b=some o→o.cls≠.type "tuple"∧(∀es n,o.data≠.dict es n)∧∀v,o.data≠.cell v
 nolimit:∀{h:Heap},G h→h.NoLimit
 gl:∀{h:Heap},G h→h.Ns mainGlobals mg
 bl:∀{h:Heap},G h→h.Ns builtinsNs mb
noncomputable abbrev Wd.M (W:Wd):Model:=model W.prog W.w
structure Stp (W:Wd) (s s':Shared):Prop where
 evo:∀b o,s.heap.get? b=some o→¬W.X b→s'.heap.get? b=some o
 g:W.G s'.heap
 os:s'.os=s.os
 gens:∀(i:Nat) g,s.gens[i]? = some g→s'.gens[i]? = some g
 bare:AllBare s'.gens
 toks:s.toks≤s'.toks
theorem Stp.refl {W:Wd}{s:Shared} (g:W.G s.heap) (b:AllBare s.gens):Stp W s s:=⟨λ_ _ e _=>e,g,rfl,λ_ _ e=>e,b,Nat.le_refl _⟩
theorem Stp.trans {W:Wd}{a b c:Shared} (x:Stp W a b) (y:Stp W b c):Stp W a c :=
 ⟨λk o e n=>y.evo k o (x.evo k o e n) n,y.g,y.os.trans x.os,λi g e=>y.gens i g (x.gens i g e),y.bare,Nat.le_trans x.toks y.toks⟩
theorem Wd.keepAll (W:Wd) {h h':Heap} (g:W.G h) (k:∀b o,h.get? b=some o→h'.get? b=some o):W.G h':=W.keep g λb o e _=>k b o e
theorem Stp.keeps {W:Wd}{a b:Shared}{h:Heap}{tk:Nat} (x:Stp W a b) (k:∀c o,b.heap.get? c=some o→h.get? c=some o) (ht:b.toks≤tk:=by lia):Stp W a {b with heap:=h,toks:=tk} :=
 ⟨λc o e n=>k c o (x.evo c o e n),W.keepAll x.g k,x.os,x.gens,x.bare,Nat.le_trans x.toks ht⟩
theorem Stp.tk {W:Wd}{a b:Shared}{tk:Nat} (x:Stp W a b) (ht:b.toks≤tk:=by lia):Stp W a {b with toks:=tk}:=⟨x.evo,x.g,x.os,x.gens,x.bare,Nat.le_trans x.toks ht⟩
theorem RV.step {W:Wd}{s s':Shared}{X:Addr→Prop}{d:D}{v:Value} (g:W.G s.heap) (x:Stp W s s') (hX:∀a,W.X a→X a) (r:RV s.heap X d v):RV s'.heap X d v :=
 r.to (λb o e hc=>x.evo b o e λq=>by
  rcases hc with hc | hc
  ·exact hc.2.1 (hX b q)
  ·exact(W.xcls g q e).1 hc.1) λ_ q=>.inl q
theorem RVs.step {W:Wd}{s s':Shared}{X:Addr→Prop}{d:List D}{v:List Value} (g:W.G s.heap) (x:Stp W s s') (hX:∀a,W.X a→X a) (r:RVs s.heap X d v):RVs s'.heap X d v :=
 r.to (λb o e hc=>x.evo b o e λq=>by
  rcases hc with hc | hc
  ·exact hc.2.1 (hX b q)
  ·exact(W.xcls g q e).1 hc.1) λ_ q=>.inl q
structure Cx where
 k:Nat
 A:Around
 env:Env
 base:Shared
 ns:List Str
 no:Nat
noncomputable def Var (env:Env) (h:Heap) (x:Str) (v:Value):Prop :=
 (env.kindOf x=some .local∧∃m,h.Ns env.locals m∧m x=some v) ∨
 ((env.kindOf x=some .cell∨(env.kindOf x=some .free∧(x == ("__classdict__" : Str))=false))∧∃c,env.cells.lookup x=some c∧h.IsCell c (some v))
noncomputable def Rm (k:Nat) (A:Around):Prop:=A.handled=none∧A.depth+k < 1000∧A.units+8*k < 9000
theorem Rm.deeper {k:Nat}{A:Around} (r:Rm (k+1) A) (env:Env):Rm k (A.deeper env):=⟨r.1,by have:=r.2.1;show A.depth+1+k < 1000;lia,by have:=r.2.2;show A.units+3+8*k < 9000;lia⟩
theorem Rm.le {k j:Nat}{A:Around} (r:Rm k A) (h:j≤k):Rm j A:=⟨r.1,by have:=r.2.1;lia,by have:=r.2.2;lia⟩
structure CxOk (W:Wd) (c:Cx):Prop where
 glob:c.env.globals=mainGlobals
 blt:c.env.builtins=builtinsNs
 kind:c.env.scope.kind = .function
 nd:c.ns.Nodup
 dbg:∀x∈c.ns,(x == ("__debug__" : Str))=false
 room:Rm c.k c.A
 good:W.G c.base.heap
 toks:W.tk0≤c.base.toks
 lnew:c.base.heap.get? c.env.locals=none
 cnew:∀i x k,i < c.no→c.ns[i]? = some x→c.env.cells.lookup x=some k→c.base.heap.get? k=none
 kinds:∀i x,i < c.no→c.ns[i]? = some x→c.env.kindOf x=some .local∨(c.env.kindOf x=some .cell∧(c.env.cells.lookup x).isSome=true)
 cinj:∀x y k,c.env.cells.lookup x=some k→c.env.cells.lookup y=some k→x=y
noncomputable def OX (W:Wd) (o:Nat→Option Addr):Addr→Prop:=λa=>W.X a∨∃j,o j=some a
noncomputable def BV (W:Wd) (h:Heap) (o:Nat→Option Addr) (i:Nat):B→Value→Prop
 | .fz d,v=>RV h (OX W o) d v
 | .mu xs,v=>∃a vs,v = .ref a∧o i=some a∧h.PlainList a vs.toArray∧RVs h (OX W o) xs vs
structure Rel (W:Wd) (c:Cx) (o:Nat→Option Addr) (ρ:zc) (s:Shared):Prop where
 ok:CxOk W c
 step:Stp W c.base s
 loc:∃m,s.heap.Ns c.env.locals m
 cel:∀x k,c.env.cells.lookup x=some k→∃v,s.heap.IsCell k v
 vars:∀i x b,c.ns[i]? = some x→ρ[i]? = some (some b)→∃v,Var c.env s.heap x v∧BV W s.heap o i b v
 own:∀i a,o i=some a→c.base.heap.get? a=none∧∃vs,s.heap.PlainList a vs
 inj:∀i j a,o i=some a→o j=some a→i=j
theorem Var.to {env:Env}{h h':Heap}{x:Str}{v:Value} (r:Var env h x v) (hl:∀m,h.Ns env.locals m→h'.Ns env.locals m) (hc:∀k v,env.cells.lookup x=some k→h.IsCell k v→h'.IsCell k v):Var env h' x v :=
 r.imp (λ⟨a,m,b,c⟩=>⟨a,m,hl m b,c⟩) λ⟨a,k,b,c⟩=>⟨a,k,b,hc _ _ b c⟩
theorem zC {W:Wd}{s s':Shared}{k:Addr}{v:Option Value} (g:W.G s.heap) (x:Stp W s s') (c:s.heap.IsCell k v):s'.heap.IsCell k v:=by
 refine xEA c λo ho hd=>?_;clear c
 exact⟨o,x.evo _ _ ho λq=>(W.xcls g q ho).2.2 _ hd,hd⟩
theorem zgD {W:Wd}{s s':Shared}{k:Addr}{m:Str→Option Value} (g:W.G s.heap) (x:Stp W s s') (c:s.heap.Ns k m):s'.heap.Ns k m:=by
 refine zcb c λo es ep ho hd r=>?_;clear c
 exact⟨o,es,ep,x.evo _ _ ho λq=>(W.xcls g q ho).2.1 _ _ hd,hd,r⟩
theorem zz {W:Wd}{s s':Shared}{k:Addr}{vs:Array Value} (nx:¬W.X k) (x:Stp W s s') (c:s.heap.PlainList k vs):s'.heap.PlainList k vs:=by
 refine xE c λn ho=>?_;clear c
 exact⟨n,x.evo _ _ ho nx⟩
theorem Rel.ownX {W:Wd}{c:Cx}{o:Nat→Option Addr}{ρ:zc}{s:Shared} (r:Rel W c o ρ s) {i:Nat}{a:Addr} (h:o i=some a):¬W.X a:=λq =>
 W.sy r.ok.good (W.xsy _ q) (r.own i a h).1
theorem Rel.mono {W:Wd}{c:Cx}{o:Nat→Option Addr}{ρ:zc}{s s':Shared} (r:Rel W c o ρ s) (x:Stp W s s'):Rel W c o ρ s':=by
 have g:=r.step.g
 refine⟨r.ok,r.step.trans x,let ⟨m,h⟩:=r.loc;⟨m,zgD g x h⟩,λy k e=>let ⟨v,h⟩:=r.cel y k e;⟨v,zC g x h⟩,λi y b h1 h2=>?_,λi a e=>?_,r.inj⟩
 ·refine xEA (r.vars i y b h1 h2) λv hv hb=>?_
  refine⟨v,hv.to (λm h=>zgD g x h) (λ_ _ _ h=>zC g x h),?_⟩
  cases b with
  | fz d=>exact RV.step g x (λ_ q=>.inl q) hb
  | mu xs=>refine zar hb λa vs e1 e2 e3 e4=>?_;clear hb;exact⟨a,vs,e1,e2,zz (r.ownX e2) x e3,RVs.step g x (λ_ q=>.inl q) e4⟩
 ·refine xAE (r.own i a e) λh1 vs h3=>?_
  exact⟨h1,vs,zz (r.ownX e) x h3⟩
inductive Kd where
 | al | ow | ba | nu
noncomputable def zjV (W:Wd) (c:Cx) (o:Nat→Option Addr) (s:Shared):Kd→Addr→Prop
 | .al=>W.X
 | .ow=>OX W o
 | .ba=>λa=>W.X a∨c.base.heap.get? a≠none
 | .nu=>λa=>W.X a∨s.heap.get? a≠none
theorem zcK {W:Wd}{c:Cx}{o:Nat→Option Addr}{s:Shared}{κ:Kd} (a:Addr) (h:W.X a):zjV W c o s κ a:=by
 cases κ with
 | al=>exact h
 | ow=>exact .inl h
 | ba=>exact .inl h
 | nu=>exact .inl h
noncomputable def Ev (W:Wd) (κ:Kd) (c:Cx) (ρ:zc) (e:Expr) (d:D):Prop :=
 ∀o s,Rel W c o ρ s→∀(Q:Value→Shared→Prop) (E:Value→Shared→Prop),(∀v s',Stp W s s'→RV s'.heap (zjV W c o s κ) d v→Q v s')→wpAny W.M c.A (eval e c.env) Q E s
noncomputable def EvT (W:Wd) (c:Cx) (ρ:zc) (e:Expr) (b:Bool):Prop :=
 ∀o s,Rel W c o ρ s→∀(Q:Bool→Shared→Prop) (E:Value→Shared→Prop),(∀s',Stp W s s'→Q b s')→wpAny W.M c.A (isTrue e c.env (eval e c.env)) Q E s
noncomputable def EvL (W:Wd) (κ:Kd) (c:Cx) (ρ:zc) (es:List Expr) (ds:List D):Prop :=
 ∀pos o s,Rel W c o ρ s→∀(Q:List Value→Shared→Prop) (E:Value→Shared→Prop),(∀vs s',Stp W s s'→RVs s'.heap (zjV W c o s κ) ds vs→Q vs s')→wpAny W.M c.A (spliced (backTo pos (starEach es c.env))) Q E s
noncomputable def FlR (W:Wd) (c:Cx) (h:Heap):Fl→Flow→Prop
 | .next,f=>f = .next
 | .brk,f=>f = .brk
 | .ret d,f=>∃v,f = .ret v∧RV h (λa=>W.X a∨c.base.heap.get? a≠none) d v
theorem zeM {W:Wd}{c:Cx}{h:Heap}{f:Flow}:FlR W c h .next f=(f = .next):=rfl
theorem zqE {W:Wd}{c:Cx}{h:Heap}{f:Flow}:FlR W c h .brk f=(f = .brk):=rfl
noncomputable def zga (W:Wd) (c:Cx) (o:Nat→Option Addr) (s s':Shared):Prop :=
 ∀b ob,s.heap.get? b=some ob→b≠c.env.locals→(∀x k,c.env.cells.lookup x=some k→b≠k)→(∀i,o i≠some b)→¬W.X b→s'.heap.get? b=some ob
noncomputable def zbC (o o':Nat→Option Addr) (s:Shared):Prop:=∀i a,o' i=some a→(∃j,o j=some a)∨s.heap.get? a=none
noncomputable def zt (s s':Shared):Prop:=∀(i:Nat) g,s.gens[i]? = some g→s'.gens[i]? = some g
noncomputable def zca (s s':Shared):Prop:=∀a,s.heap.get? a≠none→s'.heap.get? a≠none
theorem zca.trans {a b c:Shared} (x:zca a b) (y:zca b c):zca a c:=λk h=>y k (x k h)
theorem zca.none {a b:Shared} (x:zca a b) {k:Addr} (h:b.heap.get? k=none):a.heap.get? k=none:=Decidable.byContradiction λq=>x k q h
inductive Done (W:Wd) (c:Cx) (o:Nat→Option Addr) (s:Shared) (fl:Fl) (ρ':zc) (f:Flow) (s':Shared):Prop
 | mk (o':Nat→Option Addr) (r:Rel W c o' ρ' s') (h:FlR W c s'.heap fl f) (l:zga W c o s s') (n:zbC o o' s) (g:zt s s') (a:zca s s'):Done W c o s fl ρ' f s'
theorem Done.flr {W:Wd}{c:Cx}{o:Nat→Option Addr}{s:Shared}{fl:Fl}{ρ':zc}{f:Flow}{s':Shared}:Done W c o s fl ρ' f s'→FlR W c s'.heap fl f
 | ⟨_,_,h,_,_,_,_⟩=>h
noncomputable def Ex (W:Wd) (c:Cx) (ρ:zc) (ss:List Stmt) (fl:Fl) (ρ':zc):Prop :=
 ∀o s,Rel W c o ρ s→∀E:Value→Shared→Prop,wpAny W.M c.A (execs ss c.env) (λf s'=>Done W c o s fl ρ' f s') E s
noncomputable def Ex1 (W:Wd) (c:Cx) (ρ:zc) (ss:Stmt) (fl:Fl) (ρ':zc):Prop :=
 ∀o s,Rel W c o ρ s→∀E:Value→Shared→Prop,wpAny W.M c.A (exec ss c.env) (λf s'=>Done W c o s fl ρ' f s') E s
theorem zga.refl {W:Wd}{c:Cx}{o:Nat→Option Addr}{s:Shared}:zga W c o s s:=λ_ _ e _ _ _ _=>e
theorem zga.trans {W:Wd}{c:Cx}{o o':Nat→Option Addr}{a b d:Shared} (x:zga W c o a b) (n:zbC o o' a) (y:zga W c o' b d):zga W c o a d :=
 λk ob e h1 h2 h3 h4=>y k ob (x k ob e h1 h2 h3 h4) h1 h2 (λi q=>by
  rcases n i k q with ⟨j,q⟩ | q
  ·exact h3 j q
  ·rw[e]at q;cases q) h4
theorem zga.of_step {W:Wd}{c:Cx}{o:Nat→Option Addr}{s s':Shared} (x:Stp W s s'):zga W c o s s':=λb ob e _ _ _ hx=>x.evo b ob e hx
theorem zbC.refl {o:Nat→Option Addr}{s:Shared}:zbC o o s:=λi _ e=>.inl ⟨i,e⟩
section
variable {W:Wd}{c:Cx}{o:Nat→Option Addr}{ρ:zc}{s s':Shared}
noncomputable def Gd (W:Wd) (s:Shared):Prop:=W.G s.heap∧AllBare s.gens
theorem Stp.gd (x:Stp W s s'):Gd W s':=⟨x.g,x.bare⟩
theorem Gd.refl (x:Gd W s):Stp W s s:=Stp.refl x.1 x.2
theorem Rel.gd (r:Rel W c o ρ s):Gd W s:=r.step.gd
theorem Gd.toks {tk:Nat} (x:Gd W s) (ht:s.toks≤tk:=by lia):Stp W s {s with toks:=tk}:=Stp.tk x.refl ht
theorem Gd.keeps {h:Heap}{tk:Nat} (x:Gd W s) (k:∀c o,s.heap.get? c=some o→h.get? c=some o) (ht:s.toks≤tk:=by lia):Stp W s {s with heap:=h,toks:=tk}:=Stp.keeps x.refl k ht
theorem Gd.push {ob:Obj} (x:Gd W s):Stp W s {s with heap:=s.heap.push ob}:=Stp.keeps (tk:=s.toks) x.refl λ_ _ e=>Heap.get?_push_of_some _ e
noncomputable abbrev nw (s:Shared):Addr→Prop:=λa=>s.heap.get? a≠none
theorem Stp.alive {a:Addr} (g:W.G s.heap) (x:Stp W s s') (h:s.heap.get? a≠none):s'.heap.get? a≠none:=by
 by_cases hx:W.X a
 ·exact W.sy x.g (W.xsy _ hx)
 ·cases e:s.heap.get? a with
  | none=>exact absurd e h
  | some ob=>rw[x.evo _ _ e hx];exact nofun
theorem zdl (r:Rel W c o ρ s) {a:Addr} (h:c.base.heap.get? a≠none):s.heap.get? a≠none:=r.step.alive r.ok.good h
theorem zcD (r:Rel W c o ρ s) {i:Nat}{a:Addr} (h:o i=some a):s.heap.get? a≠none:=by
 refine zmn (r.own i a h) λ_ vs n e=>?_
 rw[e];exact nofun
theorem zdO (g:W.G s.heap) {a:Addr} (h:W.X a):nw s a:=W.sy g (W.xsy _ h)
theorem zbV (r:Rel W c o ρ s) {κ:Kd}{a:Addr} (h:zjV W c o s κ a):nw s a:=by
 cases κ with
 | al=>exact zdO r.step.g h
 | ow=>rcases h with h | ⟨j,h⟩;exact zdO r.step.g h;exact zcD r h
 | ba=>rcases h with h | h;exact zdO r.step.g h;exact zdl r h
 | nu=>rcases h with h | h;exact zdO r.step.g h;exact h
theorem zhE (r:Rel W c o ρ s) (x:Stp W s s') {κ:Kd}{a:Addr} (h:zjV W c o s κ a):zjV W c o s' κ a:=by
 cases κ with
 | al=>exact h
 | ow=>exact h
 | ba=>exact h
 | nu=>exact h.imp (λq=>q) λq=>x.alive r.step.g q
theorem RV.fresh {h:Heap}{d:D}{v:Value}{κ:Kd} (r:Rel W c o ρ s) (x:RV h (nw s) d v):RV h (zjV W c o s κ) d v:=x.weak λa q=>zbV r q
theorem RVs.fresh {h:Heap}{d:List D}{v:List Value}{κ:Kd} (r:Rel W c o ρ s) (x:RVs h (nw s) d v):RVs h (zjV W c o s κ) d v:=x.weak λa q=>zbV r q
theorem RV.al {h:Heap}{κ:Kd}{d:D}{v:Value} (x:RV h (zjV W c o s κ) d v):RV h W.X d v:=x.weak λa q=>zcK a q
theorem RVs.al {h:Heap}{κ:Kd}{d:List D}{v:List Value} (x:RVs h (zjV W c o s κ) d v):RVs h W.X d v:=x.weak λa q=>zcK a q
theorem RV.back {h:Heap}{d:D}{v:Value} (g:W.G s.heap) (x:Stp W s s') (r:RV h (nw s') d v):RV h (nw s) d v:=r.weak λa q=>x.alive g q
theorem RVs.back {h:Heap}{d:List D}{v:List Value} (g:W.G s.heap) (x:Stp W s s') (r:RVs h (nw s') d v):RVs h (nw s) d v:=r.weak λa q=>x.alive g q
theorem zap (h:Heap):h.get? h.objs.size=none:=by
 cases e:h.get? h.objs.size with
 | none=>rfl
 | some o=>exact absurd (Heap.lt_size e) (Nat.lt_irrefl _)
theorem Stp.left (x:Stp W s s'):zt s s':=x.gens
theorem Done.of_stp (r:Rel W c o ρ s) (x:Stp W s s'):Done W c o s .next ρ .next s':=⟨o,r.mono x,rfl,.of_step x,.refl,x.gens,λa h=>x.alive r.step.g h⟩
end
end Mine.Internal
end

noncomputable section
open PySem PySem.Calls PyProof.Rows
namespace Mine.Internal
noncomputable def To1 (W:Wd) (f:Value→Sem Value) (a d:D):Prop :=
 ∀A s v,Rm 0 A→Gd W s→RV s.heap W.X a v→∀(Q E:Value→Shared→Prop),(∀r s',Stp W s s'→RV s'.heap (nw s) d r→Q r s')→wpAny W.M A (f v) Q E s
noncomputable def To2 (W:Wd) (f:Value→Value→Sem Value) (a b d:D):Prop :=
 ∀A s v u,Rm 0 A→Gd W s→RV s.heap W.X a v→RV s.heap W.X b u→∀(Q E:Value→Shared→Prop),(∀r s',Stp W s s'→RV s'.heap (nw s) d r→Q r s')→wpAny W.M A (f v u) Q E s
noncomputable def ToL (W:Wd) (f:List Value→Sem Value) (ds:List D) (d:D):Prop :=
 ∀A s vs,Rm 0 A→Gd W s→RVs s.heap W.X ds vs→∀(Q E:Value→Shared→Prop),(∀r s',Stp W s s'→RV s'.heap (nw s) d r→Q r s')→wpAny W.M A (f vs) Q E s
noncomputable def Tru (W:Wd) (a:D) (b:Bool):Prop :=
 ∀A s v,Rm 0 A→Gd W s→RV s.heap W.X a v→∀(Q:Bool→Shared→Prop) (E:Value→Shared→Prop),(∀s',Stp W s s'→Q b s')→wpAny W.M A (truthy v) Q E s
section
variable {W:Wd}{κ κ':Kd}{c:Cx}{ρ:zc}{e l r:Expr}{pos:Pos}{d a b:D}
theorem Ev.al (h:Ev W κ c ρ e d):Ev W .al c ρ e d:=λo s rl Q E k=>h o s rl Q E λv s' x y=>k v s' x y.al
theorem Ev.flat (h:Ev W κ c ρ e d) (f:zbp d=true):Ev W κ' c ρ e d:=λo s rl Q E k=>h o s rl Q E λv s' x y=>k v s' x (y.flat f)
theorem Ev.nu (h:Ev W .nu c ρ e d):Ev W κ c ρ e d:=λo s rl Q E k=>h o s rl Q E λv s' x y=>k v s' x (y.weak λa q=>.inr (zbV rl q))
theorem zun {i:Int}{k:Nat}:Ev W κ c ρ (.Constant (.int i) k pos) (.int i):=λo s rl Q E h=>wpAny_Constant_int (h _ _ rl.gd.toks ⟨_,rfl⟩)
theorem zuk {x:Str}{y:List Nat}{k:Nat} (hx:x=sv y):Ev W κ c ρ (.Constant (.str x) k pos) (.str y):=λo s rl Q E h=>wpAny_Constant_str (h _ _ rl.gd.toks ⟨_,by rw[hx]⟩)
theorem zqT {b:Bool}{k:Nat}:Ev W κ c ρ (.Constant (.bool b) k pos) (.bool b):=λo s rl Q E h=>wpAny_Constant_bool (h _ _ rl.gd.refl (rfl))
theorem zqQ {k:Nat}:Ev W κ c ρ (.Constant .none k pos) .none:=λo s rl Q E h=>wpAny_Constant_none (h _ _ rl.gd.refl (rfl))
theorem zdJ {o:Nat→Option Addr}{s:Shared}{x:Str}{v:Value}{Q E:Value→Shared→Prop} (rl:Rel W c o ρ s) (hv:Var c.env s.heap x v) (h:Q v s):wpAny W.M c.A (loadName c.env x) Q E s:=by
 rcases hv with ⟨hk,m,hm,hx⟩ | ⟨hk | ⟨hk,hn⟩,k,hc,hx⟩
 ·exact wpAny_loadName_local rl.ok.kind hk hm hx h
 ·exact wpAny_loadName_cell rl.ok.kind hk hc hx h
 ·exact wpAny_loadName_free rl.ok.kind hk hc hx h hn
theorem znG {i:Nat}{x:Str}{b:B} (hi:c.ns[i]? = some x) (hρ:ρ[i]? = some (some b)) (hk:∀o s v,Rel W c o ρ s→BV W s.heap o i b v→RV s.heap (zjV W c o s κ) d v):Ev W κ c ρ (.Name x pos) d:=λo s rl Q E h=>by
 refine xEA (rl.vars i x b hi hρ) λv hv hb=>?_
 exact wpAny_Name (zdJ rl hv (h v s rl.gd.refl (hk o s v rl hb))) (rl.ok.dbg x (List.mem_of_getElem? hi))
theorem zer (i:Nat) {x:Str} (hi:c.ns[i]? = some x) (hρ:ρ[i]? = some (some (.fz d))) (f:zbp d=true):Ev W κ c ρ (.Name x pos) d:=znG hi hρ λ_ _ _ _ hb=>RV.flat f hb
theorem zfP (i:Nat) {x:Str} (hi:c.ns[i]? = some x) (hρ:ρ[i]? = some (some (.fz d))):Ev W .ow c ρ (.Name x pos) d:=znG hi hρ λ_ _ _ _ hb=>hb
theorem zlH (i:Nat) {x:Str} (hi:c.ns[i]? = some x) (hρ:ρ[i]? = some (some (.fz d))):Ev W .al c ρ (.Name x pos) d:=(zfP i hi hρ).al
theorem zoI (i:Nat) {x:Str}{xs:List D} (hi:c.ns[i]? = some x) (hρ:ρ[i]? = some (some (.mu xs))) (f:zg xs=true):Ev W .ba c ρ (.Name x pos) (.list xs):=znG hi hρ λo s v rl hb=>by
 refine zar hb λa vs q2_ ho hl hr=>?_;clear hb;subst q2_
 exact⟨a,vs,rfl,hl,λq=>by rcases q with q | q;exact rl.ownX ho q;exact q (rl.own i a ho).1,hr.flat f⟩
theorem zul (i:Nat) {x:Str}{xs:List D} (hi:c.ns[i]? = some x) (hρ:ρ[i]? = some (some (.mu xs))):Ev W .al c ρ (.Name x pos) (.list xs):=znG hi hρ λo s v rl hb=>by
 refine zar hb λa vs q2_ ho hl hr=>?_;clear hb;subst q2_
 exact⟨a,vs,rfl,hl,λq=>rl.ownX ho q,hr.weak λa q=>.inl q⟩
theorem rm0 {o:Nat→Option Addr}{s:Shared} (rl:Rel W c o ρ s):Rm 0 c.A:=rl.ok.room.le (Nat.zero_le _)
theorem zxh {op:UnaryOp} (h1:Ev W .al c ρ e a) (h2:To1 W (unaryOp op) a d):Ev W κ c ρ (.UnaryOp op e pos) d:=λo s rl Q E h =>
 wpAny_UnaryOp (h1 o s rl _ _ λv s1 x1 r1=>h2 _ _ _ (rm0 rl) x1.gd r1.al _ _ λu s2 x2 r2=>h _ _ (x1.trans x2) ((r2.back rl.gd.1 x1).fresh rl))
theorem ziH {op:Operator} (h1:Ev W .al c ρ l a) (h2:Ev W .al c ρ r b) (h3:To2 W (binaryOp op) a b d):Ev W κ c ρ (.BinOp l op r pos) d:=λo s rl Q E h =>
 wpAny_BinOp (h1 o s rl _ _ λv s1 x1 r1=>h2 o s1 (rl.mono x1) _ _ λu s2 x2 r2=>h3 _ _ _ _ (rm0 rl) x2.gd (r1.step x1.g x2 zcK).al r2.al _ _ λw s3 x3 r3 =>
  h _ _ ((x1.trans x2).trans x3) ((r3.back rl.gd.1 (x1.trans x2)).fresh rl))
theorem zuq {op:CmpOp} (h1:Ev W .al c ρ l a) (h2:Ev W .al c ρ r b) (h3:To2 W (compareOp op) a b d) (hm:behindInMarks op r=false):Ev W κ c ρ (.Compare l [op] [r] pos) d:=λo s rl Q E h =>
 wpAny_Compare1 (h1 o s rl _ _ λv s1 x1 r1=>h2 o s1 (rl.mono x1) _ _ λu s2 x2 r2=>h3 _ _ _ _ (rm0 rl) x2.gd (r1.step x1.g x2 zcK).al r2.al _ _ λw s3 x3 r3 =>
  h _ _ ((x1.trans x2).trans x3) ((r3.back rl.gd.1 (x1.trans x2)).fresh rl)) hm
theorem zqL {op:CmpOp}{p:Bool} (h1:Ev W .al c ρ l a) (h2:Ev W .al c ρ r b) (h3:To2 W (compareOp op) a b (.bool p)) (hm:behindInMarks op r=false):EvT W c ρ (.Compare l [op] [r] pos) p:=λo s rl Q E h =>
 wpAny_isTrue_Compare1 (h1 o s rl _ _ λv s1 x1 r1=>h2 o s1 (rl.mono x1) _ _ λu s2 x2 r2=>h3 _ _ _ _ (rm0 rl) x2.gd (r1.step x1.g x2 zcK).al r2.al _ _ λw s3 x3 r3=>by
  rw[show _=Value.bool _ from r3];exact wpAny_truthy_bool (h _ ((x1.trans x2).trans x3))) hm
theorem zhN {p:Bool} (h1:Ev W .al c ρ e a) (h2:Tru W a p) (he:∀whole,isTrue e c.env whole=(do let v ← whole;standAt e.pos;holding [v] (truthy v))):EvT W c ρ e p:=λo s rl Q E h =>
 wpAny_isTrue_value (h1 o s rl _ _ λv s1 x1 r1=>h2 _ _ _ (rm0 rl) x1.gd r1.al _ _ λs2 x2=>h _ (x1.trans x2)) (he _)
theorem zqK {p:Bool} (h1:EvT W c ρ e p):EvT W c ρ (.UnaryOp .Not e pos) (!p):=λo s rl Q E h=>wpAny_isTrue_Not (h1 o s rl _ _ λs1 x1=>h _ x1)
noncomputable def zod (W:Wd) (c:Cx) (ρ:zc) (op:BoolOp) (es:List Expr) (b:Bool):Prop :=
 ∀o s,Rel W c o ρ s→∀(Q:Bool→Shared→Prop) (E:Value→Shared→Prop),(∀s',Stp W s s'→Q b s')→wpAny W.M c.A (allTrue op es c.env) Q E s
theorem zlF {op:BoolOp}{es:List Expr}{p:Bool} (h:zod W c ρ op es p):EvT W c ρ (.BoolOp op es pos) p:=λo s rl Q E k=>wpAny_isTrue_BoolOp (h o s rl _ _ k)
theorem zrl:zod W c ρ .And [] true:=λo s rl Q E k=>wpAny_allTrue_And_nil (k _ rl.gd.refl)
theorem zfZ {es:List Expr}{p q:Bool} (h1:EvT W c ρ e p) (h2:p=true→zod W c ρ .And es q):zod W c ρ .And (e::es) (p && q):=λo s rl Q E k =>
 wpAny_allTrue_And_cons (h1 o s rl _ _ λs1 x1=>by
  cases p with
  | false=>exact k _ x1
  | true=>exact h2 rfl o s1 (rl.mono x1) _ _ λs2 x2=>k _ (x1.trans x2))
theorem zoK {p:Bool}{body orelse:Expr} (h1:EvT W c ρ e p) (h2:p=true→Ev W κ c ρ body d) (h3:p=false→Ev W κ c ρ orelse d):Ev W κ c ρ (.IfExp e body orelse pos) d:=λo s rl Q E k =>
 wpAny_IfExp (h1 o s rl _ _ λs1 x1=>by
  cases p with
  | true=>exact h2 rfl o s1 (rl.mono x1) _ _ λv s2 x2 r2=>k _ _ (x1.trans x2) (r2.weak λa q=>zhE rl x1 q)
  | false=>exact h3 rfl o s1 (rl.mono x1) _ _ λv s2 x2 r2=>k _ _ (x1.trans x2) (r2.weak λa q=>zhE rl x1 q))
theorem zbg:EvL W κ c ρ [] []:=λpos o s rl Q E k=>wpAny_items_nil (k _ _ rl.gd.refl RVs.nil)
theorem zbx {es:List Expr}{ds:List D} (h1:Ev W κ c ρ e d) (h2:EvL W κ c ρ es ds) (he:∀env,starEach (e::es) env=(false,eval e env)::starEach es env):EvL W κ c ρ (e::es) (d::ds):=λpos o s rl Q E k =>
 wpAny_items_cons (h1 o s rl _ _ λv s1 x1 r1=>h2 pos o s1 (rl.mono x1) _ _ λvs s2 x2 r2=>k _ _ (x1.trans x2) (.cons (r1.step x1.g x2 zcK) (r2.weak λa q=>zhE rl x1 q))) (he _)
theorem ziE {es:List Expr}{ds:List D}{k:Nat} (h1:EvL W κ c ρ es ds) (hs:ds.length≤1000):Ev W κ c ρ (.Tuple es k pos) (.tup ds):=λo s rl Q E h =>
 wpAny_Tuple (h1 pos o s rl _ _ λvs s1 x1 r1=>⟨by rw[r1.len];exact Nat.le_trans hs (by decide),h _ _ (x1.trans x1.gd.push) (by
  exact⟨_,vs,rfl,⟨_,Heap.get?_push_size _ rfl,rfl,0,rfl⟩,r1.to (λb o e _=>Heap.get?_push_of_some _ e) λ_ q=>.inl q⟩)⟩)
theorem zlJ {es:List Expr}{ds:List D} (h1:EvL W κ c ρ es ds) (hs:ds.length≤1000):Ev W κ c ρ (.List es pos) (.list ds):=λo s rl Q E h =>
 wpAny_List (h1 pos o s rl _ _ λvs s1 x1 r1=>⟨by rw[r1.len];exact Nat.le_trans hs (by decide),h _ _ (x1.trans x1.gd.push) (by
  refine⟨_,vs,rfl,⟨0,Heap.get?_push_size _ rfl⟩,λq=>?_,r1.to (λb o e _=>Heap.get?_push_of_some _ e) λ_ q=>.inl q⟩
  exact x1.alive rl.gd.1 (zbV rl q) (zap _))⟩)
end
section
variable {W:Wd}{a b:Int}
theorem zM {f:Value→Value→Sem Value}{n:Int} (h:∀A s t u (Q E:Value→Shared→Prop),Q (.int n s.toks) {s with toks:=s.toks+1}→wpAny W.M A (f (.int a t) (.int b u)) Q E s):To2 W f (.int a) (.int b) (.int n) :=
 λA s v u _ g r1 r2 Q E k=>by
  simp only[zvo]at r1 r2
  refine xE r1 λt q1_=>?_;clear r1;subst q1_;refine xE r2 λt' q1_=>?_;clear r2;subst q1_
  exact h A s t t' Q E (k _ _ g.toks ⟨_,rfl⟩)
theorem zwj:To2 W (binaryOp .Add) (.int a) (.int b) (.int (a+b)):=zM λA s t u Q E k=>wpAny_add_int k
theorem zsn:To2 W (inplaceOp .Add) (.int a) (.int b) (.int (a+b)):=zM λA s t u Q E k=>wpAny_iadd_int k
theorem zvY:To2 W (binaryOp .Sub) (.int a) (.int b) (.int (a - b)):=zM λA s t u Q E k=>sub_int' k
theorem zsi:To2 W (inplaceOp .Sub) (.int a) (.int b) (.int (a - b)):=zM λA s t u Q E k=>isub_int k
theorem zwe (h:IntMulOk a b):To2 W (binaryOp .Mult) (.int a) (.int b) (.int (a*b)):=zM λA s t u Q E k=>mul_int k h
theorem zsm (h:IntMulOk a b):To2 W (inplaceOp .Mult) (.int a) (.int b) (.int (a*b)):=zM λA s t u Q E k=>imul_int k h
theorem zwf (h:b≠0):To2 W (binaryOp .Mod) (.int a) (.int b) (.int (a.fmod b)):=zM λA s t u Q E k=>mod_int' h k
theorem zso (h:b≠0) (hp:Builtin.divisionGoesByPylong a b=false):To2 W (binaryOp .FloorDiv) (.int a) (.int b) (.int (a.fdiv b)):=zM λA s t u Q E k=>floordiv_int h k (.inl hp)
theorem zwb (h:0≤b) (hp:(Builtin.Int.intBits a:Int)*b≤2 ^ 27):To2 W (binaryOp .Pow) (.int a) (.int b) (.int (a ^ b.toNat)):=zM λA s t u Q E k=>pow_int h hp k
theorem zwa (h:0≤b) (hp:(Builtin.Int.intBits a:Int)+b≤2 ^ 27):To2 W (binaryOp .LShift) (.int a) (.int b) (.int (a*2 ^ b.toNat)):=zM λA s t u Q E k=>lshift_int h hp k
theorem zsk (h:0≤b) (hp:(Builtin.Int.intBits a:Int)+b≤2 ^ 27):To2 W (inplaceOp .LShift) (.int a) (.int b) (.int (a*2 ^ b.toNat)):=zM λA s t u Q E k=>ilshift_int h hp k
theorem zvZ (h:0≤b):To2 W (binaryOp .RShift) (.int a) (.int b) (.int (a.fdiv (2 ^ b.toNat))):=zM λA s t u Q E k=>rshift_int h k
theorem zsj (h:0≤b):To2 W (inplaceOp .RShift) (.int a) (.int b) (.int (a.fdiv (2 ^ b.toNat))):=zM λA s t u Q E k=>irshift_int h k
theorem zwi:To2 W (binaryOp .BitAnd) (.int a) (.int b) (.int (Builtin.bitAnd a b)):=zM λA s t u Q E k=>and_int k
theorem t_or:To2 W (binaryOp .BitOr) (.int a) (.int b) (.int (Builtin.bitOr a b)):=zM λA s t u Q E k=>or_int k
theorem zvX:To2 W (binaryOp .BitXor) (.int a) (.int b) (.int (Builtin.bitXor a b)):=zM λA s t u Q E k=>xor_int k
theorem zwd:To1 W (unaryOp .USub) (.int a) (.int (-a)):=λA s v _ g r Q E k=>by
 simp only[zvo]at r;refine xE r λt q1_=>?_;clear r;subst q1_;exact neg_int (k _ _ g.toks ⟨_,rfl⟩)
theorem zwg:To1 W (unaryOp .Invert) (.int a) (.int (Builtin.bitNot a)):=λA s v _ g r Q E k=>by
 simp only[zvo]at r;refine xE r λt q1_=>?_;clear r;subst q1_;exact invert_int (k _ _ g.toks ⟨_,rfl⟩)
theorem zkp:Tru W (.int a) (a != 0):=λA s v _ g r Q E k=>by
 simp only[zvo]at r;refine xE r λt q1_=>?_;clear r;subst q1_;exact truthy_int (k _ g.refl)
theorem zmG {p:Bool}:Tru W (.bool p) p:=λA s v _ g r Q E k=>by
 simp only[rq_b]at r;subst r;exact wpAny_truthy_bool (k _ g.refl)
end
end Mine.Internal
end

noncomputable section
open PySem PySem.Calls PyProof.Rows
namespace Mine.Internal
section
variable {W:Wd}
theorem zi {h:Heap}{X:Addr→Prop}{i:Int}{v:Value}:RV h X (.int i) v↔∃t,v = .int i t:=Iff.rfl
theorem zN {h:Heap}{X:Addr→Prop}{x:List Nat}{v:Value}:RV h X (.str x) v↔∃t,v = .str (sv x) t:=Iff.rfl
theorem zhr {h:Heap}{X:Addr→Prop}{x:Bool}{v:Value}:RV h X (.bool x) v↔v = .bool x:=Iff.rfl
@[elab_as_elim] theorem zW {P:Value→Prop}{h:Heap}{X:Addr→Prop}{i:Int}{v:Value} (r:RV h X (.int i) v) (k:∀t,P (.int i t)):P v :=
 Exists.elim r λt y=>y▸k t
@[elab_as_elim] theorem zV {P:Value→Prop}{h:Heap}{X:Addr→Prop}{x:List Nat}{v:Value} (r:RV h X (.str x) v) (k:∀t,P (.str (sv x) t)):P v :=
 Exists.elim r λt y=>y▸k t
@[elab_as_elim] theorem zbt {P:Value→Prop}{h:Heap}{X:Addr→Prop}{xs:List D}{v:Value} (r:RV h X (.list xs) v) (k:∀a vs,h.PlainList a vs.toArray→¬X a→RVs h X xs vs→P (.ref a)):P v :=
 Exists.elim r λa y=>y.elim λvs y=>y.1▸k a vs y.2.1 y.2.2.1 y.2.2.2
@[elab_as_elim] theorem zkE {P:Value→Prop}{h:Heap}{X:Addr→Prop}{xs:List D}{v:Value} (r:RV h X (.tup xs) v) (k:∀a vs,h.IsTuple a vs.toArray→RVs h X xs vs→P (.ref a)):P v :=
 Exists.elim r λa y=>y.elim λvs y=>y.1▸k a vs y.2.1 y.2.2
theorem zy {h:Heap}{X:Addr→Prop}{xs:List D}{v:Value}:RV h X (.list xs) v↔∃a vs,v = .ref a∧h.PlainList a vs.toArray∧¬X a∧RVs h X xs vs:=Iff.rfl
theorem zgt {h:Heap}{X:Addr→Prop}{xs:List D}{v:Value}:RV h X (.tup xs) v↔∃a vs,v = .ref a∧h.IsTuple a vs.toArray∧RVs h X xs vs:=Iff.rfl
theorem zgk (x y:List Nat):(sv x)++(sv y)=sv (x++y):=by
 show Str.append _ _=_
 simp[Str.append]
theorem zu (x:List Nat):(sv x).length=x.length:=by simp[Str.length]
theorem zom (x y:List Nat):(sv x == sv y)=(x == y):=by
 rw[Bool.eq_iff_iff];simp
noncomputable def vInt (v:Value) (i:Int):Bool:=match v with
 | .int a _=>a == i
 | _=>false
noncomputable def vStr (v:Value) (x:List Nat):Bool:=match v with
 | .str y _=>y.cps.toList == x
 | _=>false
noncomputable def zhn (d:D) (v:Value):Bool:=match d with
 | .int i=>vInt v i
 | .str x=>vStr v x
 | .none=>false
 | .bool _=>false
 | .list _=>false
 | .tup _=>false
 | .tk _ _=>false
theorem zoN {A:Around}{s:Shared}{h:Heap}{X:Addr→Prop}{d e:D}{v u:Value}{p:Bool} (hp:eq1 d e=some p) (r1:RV h X d v) (r2:RV h X e u):MeetsSeq.EqGives v u p∧zhn e v=p:=by
 cases d with
 | int i =>
  refine xEA (zae hp) λj q1_ h1=>?_;subst q1_
  refine xE (zi.mp r1) λt q1_=>?_;subst q1_;refine xE (zi.mp r2) λt' q1_=>?_;subst q1_
  rw[zp h1]
  exact⟨MeetsSeq.EqGives.int _ _ _ _,rfl⟩
 | str x =>
  refine xEA (zF hp) λy q1_ h1=>?_;subst q1_
  refine xE (zN.mp r1) λt q1_=>?_;subst q1_;refine xE (zN.mp r2) λt' q1_=>?_;subst q1_
  have:=SeqRoads2.EqGives.str (sv x) (sv y) t t'
  rw[zp h1]
  exact⟨this,rfl⟩
 | _=>exact zl (show Option.none=some p from hp)
theorem zoM {A:Around}{s:Shared}{h:Heap}{X:Addr→Prop}:∀{ds es:List D}{vs us:List Value}{p:Bool},eqs ds es=some p→RVs h X ds vs→RVs h X es us →
  ∃l:List Bool,l.length=vs.length∧us.length=vs.length∧p=l.all id∧∀j (h1:j < vs.length) (h2:j < us.length) (h3:j < l.length),MeetsSeq.EqGives vs[j] us[j] l[j]
 | [],es,vs,us,p,hp,r1,r2=>by
  refine xA (zgC hp) λq0_ h1=>?_;subst q0_
  cases (show vs=[] from r1);cases (show us=[] from r2)
  exact⟨[],rfl,rfl,zp h1,λj h1=>absurd h1 (Nat.not_lt_zero _)⟩
 | d::ds,es',vs,us,p,hp,r1,r2=>by
  refine zav (zgB hp) λe es q2_ h1=>?_;subst q2_
  refine zf h1 λa h2 h3=>?_
  refine zf h3 λb h4 h5=>?_
  obtain⟨v,vs,rfl,rd,r1⟩:=r1
  obtain⟨u,us,rfl,re,r2⟩:=r2
  obtain⟨l,q1,q2,q3,q4⟩:=zoM (A:=A) (s:=s) h4 r1 r2
  have g:=(zoN (A:=A) (s:=s) h2 rd re).1
  refine⟨a::l,congrArg (· + 1) q1,congrArg (· + 1) q2,?_,λj h1 h2 h3=>?_⟩
  ·rw[zp h5,q3];rfl
  ·cases j with
   | zero=>exact g
   | succ j=>exact q4 j (Nat.lt_of_succ_lt_succ h1) (Nat.lt_of_succ_lt_succ h2) (Nat.lt_of_succ_lt_succ h3)
theorem zhI {A:Around}{s:Shared}{h:Heap}{X:Addr→Prop}{x:D}{u:Value} (rx:RV h X x u):∀{ds:List D}{vs:List Value}{l:List Bool},zrw x ds=some l→RVs h X ds vs →
  (∀y,y∈vs→MeetsSeq.EqGives y u (zhn x y))∧l=vs.map (zhn x)
 | [],vs,l,hl,r=>by
  cases (show vs=[] from r)
  exact⟨λy hy=>(nomatch hy),zp hl⟩
 | d::ds,vs,l,hl,r=>by
  refine zf hl λa h1 h2=>?_
  refine zf h2 λb h3 h4=>?_
  obtain⟨v,vs,rfl,rd,r⟩:=r
  obtain⟨q1,q2⟩:=zhI (A:=A) (s:=s) rx h3 r
  obtain⟨g1,g2⟩:=zoN (A:=A) (s:=s) h1 rd rx
  refine⟨λy hy=>?_,?_⟩
  ·rcases List.mem_cons.mp hy with e | hy
   ·rw[e,g2];exact g1
   ·exact q1 y hy
  ·rw[zp h4,q2,List.map_cons,g2]
theorem zmD {A:Around}{k:Nat} (r:Rm k A):A.units+64 < cLine:=by
 have:=r.2.2
 rw[cLine_is];lia
theorem zmk (l:List Bool) (vs:List Value) (h:l.length=vs.length):l.all id=(List.range vs.length).all λj=>l.getD j true:=by
 rw[← h,Bool.eq_iff_iff,List.all_eq_true,List.all_eq_true]
 constructor
 ·intro q j hj
  rw[List.mem_range]at hj
  rw[List.getD_eq_getElem?_getD,List.getElem?_eq_getElem hj]
  exact q _ (List.getElem_mem hj)
 ·intro q x hx
  obtain⟨j,hj,rfl⟩:=List.getElem_of_mem hx
  have:=q j (List.mem_range.mpr hj)
  rwa [List.getD_eq_getElem?_getD,List.getElem?_eq_getElem hj]at this
end
end Mine.Internal
end

noncomputable section
open PySem PySem.Calls PyProof.Rows PySem.SeqAt
namespace Mine.Internal
section
variable {W:Wd}
theorem zd {h:Heap}{a:Addr}{xs:Array Value} (p:h.PlainList a xs):h.IsList a xs:=let ⟨n,e⟩:=p;⟨_,e,rfl,n,rfl⟩
theorem zpu {f:Value→Value→Sem Value}{a b:D}{p:Bool}
  (h:∀A s v u,Rm 0 A→RV s.heap W.X a v→RV s.heap W.X b u→∀(Q E:Value→Shared→Prop),Q (.bool p) s→wpAny W.M A (f v u) Q E s):To2 W f a b (.bool p) :=
 λA s v u hr g r1 r2 Q E k=>h A s v u hr r1 r2 Q E (k _ _ g.refl (zhr.mpr rfl))
theorem ziJ {A:Around}{s:Shared}{X:Addr→Prop}{xs ys:List D}{vs us:List Value}{p:Bool} (hp:eqs xs ys=some p) (q1:RVs s.heap X xs vs) (q2:RVs s.heap X ys us):∃l:List Bool,(∀j (h1:j < vs.toArray.size) (h2:j < us.toArray.size),EqAt A.in1 s vs.toArray[j] us.toArray[j] (l.getD j true)) ∧
  vs.toArray.size=us.toArray.size∧(List.range vs.toArray.size).all (λj=>l.getD j true)=p:=by
 refine zrI (zoM (A:=A) (s:=s) hp q1 q2) λl e1 e2 e3 e4=>?_
 refine⟨l,λj h1 h2=>?_,by rw[List.size_toArray,List.size_toArray,e2],by rw[List.size_toArray,e3,zmk l vs e1]⟩
 have h3:j < l.length:=by rw[e1];simpa using h1
 have:=e4 j (by simpa using h1) (by simpa using h2) h3
 rw[List.getD_eq_getElem?_getD,List.getElem?_eq_getElem h3]
 exact this.at _ _
theorem zoL {A:Around}{s:Shared}{X:Addr→Prop}{a b:D}{v u:Value}{p:Bool} (hr:Rm 0 A) (hp:deq a b=some p) (r1:RV s.heap X a v) (r2:RV s.heap X b u) (Q E:Value→Shared→Prop) :
  (Q (.bool p) s→wpAny W.M A (compareOp .Eq v u) Q E s)∧(Q (.bool (!p)) s→wpAny W.M A (compareOp .NotEq v u) Q E s):=by
 have hu:A.units < cLine:=Nat.lt_of_le_of_lt (Nat.le_add_right _ 64) (zmD hr)
 cases a with
 | int i =>
  refine xEA (zae hp) λj q1_ h1=>?_;subst q1_
  refine xE (zi.mp r1) λt q1_=>?_;subst q1_;refine xE (zi.mp r2) λt' q1_=>?_;subst q1_
  rw[zp h1]
  exact⟨λq=>eq_int q,λq=>ne_int q⟩
 | str x =>
  refine xEA (zF hp) λy q1_ h1=>?_;subst q1_
  refine xE (zN.mp r1) λt q1_=>?_;subst q1_;refine xE (zN.mp r2) λt' q1_=>?_;subst q1_
  rw[zp h1]
  exact⟨λq=>eq_str (by rw[zom];exact q),λq=>ne_str (by rw[bne,zom];exact q)⟩
 | list xs =>
  refine xEA (zaL hp) λys q1_ h1=>?_;subst q1_
  refine zar (zy.mp r1) λx vs q2_ l1 _ q1=>?_;subst q2_
  refine zar (zy.mp r2) λy us q2_ l2 _ q2=>?_;subst q2_
  by_cases hl:xs.length=ys.length
  ·rw[if_pos hl]at h1
   refine zdx (ziJ (A:=A) h1 q1 q2) λl he hz hq=>?_
   exact⟨λq=>eq_listAt (zd l1) (zd l2) hz hu he (by rw[hq];exact q),λq=>RcNeAt.lists (zd l1) (zd l2) hz hu he W.prog W.w E Q (by rw[hq];exact q)⟩
  ·rw[if_neg hl]at h1
   refine zo h1 ?_
   have hz:(vs.toArray.size != us.toArray.size)=true:=bne_iff_ne.mpr λq=>hl (by rw[← q1.len,← q2.len];simpa using q)
   exact⟨λq=>eq_list_lengthsAt (zd l1) (zd l2) hz hu q,λq=>RcNeAt.lists_lengths (zd l1) (zd l2) hz hu W.prog W.w E Q q⟩
 | tup xs =>
  refine xEA (zcE hp) λys q1_ h1=>?_;subst q1_
  refine zbb (zgt.mp r1) λx vs q2_ l1 q1=>?_;subst q2_
  refine zbb (zgt.mp r2) λy us q2_ l2 q2=>?_;subst q2_
  refine zay h1 λhl h2=>?_
  refine zdx (ziJ (A:=A) h2 q1 q2) λl he hz hq=>?_
  have hq2:((List.range (min vs.toArray.size us.toArray.size)).all (λj=>l.getD j true) && vs.toArray.size == us.toArray.size)=p:=by
   rw[← hz,Nat.min_self,hq,beq_self_eq_true,Bool.and_true]
  exact⟨λq=>eq_tupleAt l1 l2 hu he (by rw[hq2];exact q),λq=>RcNeAt.tuples l1 l2 hu he W.prog W.w E Q (by rw[hq2];exact q)⟩
 | _=>exact zl (show Option.none=some p from hp)
theorem zwQ {A:Around}{s:Shared}{X:Addr→Prop}{a:D}{ys:List D}{v u:Value}{p:Bool} (hp:zvs a ys=some p) (r1:RV s.heap X a v) (r2:RV s.heap X (.list ys) u) (Q E:Value→Shared→Prop) :
  (Q (.bool p) s→wpAny W.M A (compareOp .In v u) Q E s)∧(Q (.bool (!p)) s→wpAny W.M A (compareOp .NotIn v u) Q E s):=by
 refine zbt r2 λx vs l1 _ q1=>?_
 refine zhB hp λl hl=>?_
 refine xA (zhI (A:=A) (s:=s) r1 hl q1) λe1 e2=>?_
 have he:vs.toArray.any (zhn a)=l.any id:=by rw[e2];simp
 exact⟨λq=>in_listAt (zhn a) (zd l1) (λy hy=>(e1 y (by simpa using hy)).at _ _) (by rw[he];exact q),
  λq=>notIn_listAt (zhn a) (zd l1) (λy hy=>(e1 y (by simpa using hy)).at _ _) (by rw[he];exact q)⟩
theorem zqu {A:Around}{s:Shared}{c:Nat}{y:List Nat}{t u:Tok} (Q E:Value→Shared→Prop) :
  (Q (.bool (y.contains c)) s→wpAny W.M A (compareOp .In (.str (sv [c]) t) (.str (sv y) u)) Q E s)∧(Q (.bool (!y.contains c)) s→wpAny W.M A (compareOp .NotIn (.str (sv [c]) t) (.str (sv y) u)) Q E s):=by
 have h:(!(Builtin.Str.occurrences (sv y) (sv [c]) 0 (sv y).length 1).isEmpty)=y.contains c:=by
  rw[show sv [c]=⟨#[c]⟩ from rfl,StrLaws.found_one,Bool.eq_iff_iff];simp
 exact⟨λq=>in_str (by rw[h];exact q),λq=>notIn_str (by rw[h];exact q)⟩
theorem zsp {op:CmpOp}{a b:D}{p:Bool} (hp:zhg op a b=some p):To2 W (compareOp op) a b (.bool p):=by
 refine zpu λA s v u hr r1 r2 Q E k=>?_
 have int:∀{f:Int→Int→Bool},zuz f a b=some p→∃(i j:Int) (t t':Tok),v = .int i t∧u = .int j t'∧f i j=p:=λ{f} h=>by
  refine xEA (zae h) λi q1_ h1=>?_;subst q1_
  refine xEA (zae h1) λj q1_ h2=>?_;subst q1_
  refine xE (zi.mp r1) λt q1_=>?_;subst q1_
  refine zW r2 λt'=>?_
  exact⟨i,j,t,t',rfl,rfl,(zp h2).symm⟩
 have inn:∀q,inD a b=some q→(Q (.bool q) s→wpAny W.M A (compareOp .In v u) Q E s)∧(Q (.bool (!q)) s→wpAny W.M A (compareOp .NotIn v u) Q E s):=λq h=>by
  cases b with
  | str y =>
   refine xEA (zF h) λx q1_ h1=>?_;subst q1_
   refine xEA (zik h1) λx q1_ h2=>?_;subst q1_
   refine xE (zN.mp r1) λt q1_=>?_;subst q1_
   refine zV r2 λt'=>?_
   rw[zp h2]
   exact zqu Q E
  | list ys=>exact zwQ h r1 r2 Q E
  | _=>exact zl (show Option.none=some q from h)
 cases op with
 | Eq=>exact(zoL hr hp r1 r2 Q E).1 k
 | NotEq =>
  refine xEA (zhf hp) λq hq q2_=>?_;subst q2_
  exact(zoL hr hq r1 r2 Q E).2 k
 | Lt=>refine zbq (int hp) λi j t t' q4_ q5_ q6_=>?_;subst q4_;subst q5_;subst q6_;exact wpAny_lt_int k
 | LtE=>refine zbq (int hp) λi j t t' q4_ q5_ q6_=>?_;subst q4_;subst q5_;subst q6_;exact PyProof.Rows.le_int k
 | Gt=>refine zbq (int hp) λi j t t' q4_ q5_ q6_=>?_;subst q4_;subst q5_;subst q6_;exact PyProof.Rows.gt_int k
 | GtE=>refine zbq (int hp) λi j t t' q4_ q5_ q6_=>?_;subst q4_;subst q5_;subst q6_;exact PyProof.Rows.ge_int k
 | Is =>
  refine xA (zcF hp) λq0_ h1=>?_;subst q0_
  cases (show u = .none from r2)
  cases a with
  | none=>cases (show v = .none from r1);cases zp h1;exact is_none k
  | int i=>refine xE (zi.mp r1) λt q1_=>?_;subst q1_;cases zp h1;exact is_none k
  | _=>exact zl (show Option.none=some p from h1)
 | IsNot=>exact zl (show Option.none=some p from hp)
 | In=>exact(inn p hp).1 k
 | NotIn =>
  refine xEA (zhf hp) λq hq q2_=>?_;subst q2_
  exact(inn q hq).2 k
end
end Mine.Internal
end

noncomputable section
open PySem PySem.Calls PyProof.Rows PySem.SeqAt
namespace Mine.Internal
section
variable {W:Wd}
theorem ziq {a b:Int} (h:Builtin.Int.intBits a+Builtin.Int.intBits b≤2 ^ 20):IntMulOk a b:=IntMulOk.of_bits (Nat.le_trans (Nat.le_add_right _ _) h) (Nat.le_trans (Nat.le_add_left _ _) h)
theorem zdM {a b:Int} (h:zby a b=true):b≠0∧Builtin.divisionGoesByPylong a b=false:=by
 unfold zby at h
 simpa using h
theorem znh (x:List Nat) (n:Int) (h0:0≤n):Txt.mul (sv x) n=sv (List.replicate n.toNat x).flatten:=by
 unfold Txt.mul
 have key:∀(k:Nat) (acc:Array Nat),(List.replicate k (sv x).cps).foldl (·++·) acc=acc++((List.replicate k x).flatten).toArray:=by
  intro k
  induction k with
  | zero=>intro acc;simp
  | succ k ih=>intro acc;rw[List.replicate_succ,List.foldl_cons,ih,List.replicate_succ,List.flatten_cons];simp
 split
 ·have:n=0:=by lia
  subst this;rfl
 ·split
  ·rename_i h1 h2
   simp only[Bool.or_eq_true,beq_iff_eq]at h2
   rcases h2 with h2 | h2
   ·subst h2;simp
   ·have:x=[]:=by cases x;rfl;simp[Str.length]at h2
    subst this;simp
  ·rw[key];simp
theorem zjl {x:List Nat}{n:Int} (h0:0≤n) (h2:n≤2 ^ 20) (h1:(x.length:Int)*n≤2 ^ 20):MulOk (sv x) n:=by
 refine⟨?_,λa b=>?_,λa b=>?_⟩
 ·rw[decide_eq_false (Int.not_lt_of_ge (Int.le_trans (by decide) h0)),decide_eq_false (Int.not_le_of_gt (Int.lt_of_le_of_lt h2 (by decide)))];rfl
 ·rw[zu]
  have hx:(x.length:Int)≤(2 ^ 63 - 1) / n:=by
   rw[Int.le_ediv_iff_mul_le (Int.le_of_not_gt a)];exact Int.le_trans h1 (by decide)
  exact Int.not_lt_of_ge hx
 ·rw[zu]
  unfold Builtin.Str.tooLong sizeLine
  refine decide_eq_false ?_
  have:((x.length*n.toNat:Nat):Int)≤2 ^ 20:=by
   rw[Int.natCast_mul,Int.toNat_of_nonneg h0];exact h1
  exact Nat.not_lt_of_le (Nat.le_trans (nle this) (by decide))
theorem zaB (h:Heap) (xs:Array Value):(h.push {cls:=.type "list",data:=.seq xs}).PlainList h.objs.size xs:=⟨0,Heap.get?_push_size _ rfl⟩
theorem zkD {h:Heap}{X:Addr→Prop}{ds:List D}{vs:List Value}:∀n:Nat,RVs h X ds vs→RVs h X (List.replicate n ds).flatten (List.replicate n vs).flatten
 | 0,_=>by simpa using RVs.nil
 | n+1,r=>by simpa [List.replicate_succ] using r.append (zkD n r)
theorem zfj:∀{xs ys:List D},zg xs=true→zg ys=true→zg (xs++ys)=true
 | [],_,_,h=>h
 | x::xs,ys,h,h'=>by
  simp only[zde,Bool.and_eq_true,List.cons_append]at h ⊢
  exact⟨h.1,zfj h.2 h'⟩
theorem zgP {ds:List D}:∀n:Nat,zg ds=true→zg (List.replicate n ds).flatten=true
 | 0,_=>by simp[zmr]
 | n+1,h=>by simpa [List.replicate_succ] using zfj h (zgP n h)
theorem zst {xs ys:List D} (h:xs.length+ys.length≤2 ^ 20) (hf:zg (xs++ys)=true):To2 W (binaryOp .Add) (.list xs) (.list ys) (.list (xs++ys)):=by
 refine λA s v u _ g r1 r2 Q E k=>?_
 rw[zy]at r1 r2
 obtain⟨x,vs,rfl,⟨n,l1⟩,_,q1⟩:=r1
 obtain⟨y,us,rfl,⟨m,l2⟩,_,q2⟩:=r2
 refine concat_meets ⟨_,l1,rfl⟩ ⟨_,l2,rfl⟩ noFill_list_add seq_list_add PySem.F.slot_list_add PySem.F.entry_list_add (PySem.F.args_list_add_2 _ _) (list_addW x y vs.toArray us.toArray n m none none #[] #[] (by
  have:=q1.len;have:=q2.len;simp only[List.size_toArray];exact Nat.le_trans (by lia) (show 2 ^ 20≤sizeLine by decide))) ⟨l1,l2,?_⟩
 refine k _ _ g.push ?_
 rw[zy]
 refine⟨_,vs++us,rfl,?_,λq=>q (zap _),((q1.append q2).flat (X':=nw s) hf).to (λb o e _=>Heap.get?_push_of_some _ e) λ_ q=>.inl q⟩
 have:=zaB s.heap (vs.toArray++us.toArray)
 simpa using this
theorem zsg {xs:List D}{n:Int} (h0:0≤n) (h1:n≤2 ^ 20) (h2:xs.length*n.toNat≤2 ^ 20) (h3:xs.isEmpty=false) (hf:zg xs=true):To2 W (binaryOp .Mult) (.list xs) (.int n) (.list (List.replicate n.toNat xs).flatten):=by
 refine λA s v u _ g r1 r2 Q E k=>?_
 rw[zy]at r1;rw[zi]at r2
 obtain⟨x,vs,rfl,⟨m,l1⟩,_,q1⟩:=r1
 refine xE r2 λt q1_=>?_;clear r2;subst q1_
 have hlen:=q1.len
 have hsz:vs.toArray.size*n.toNat≤2 ^ 24:=by rw[List.size_toArray,hlen];exact Nat.le_trans h2 (by decide)
 have hne:vs.toArray.isEmpty=false:=by
  cases vs with
  | nil=>cases xs with
   | nil=>simp at h3
   | cons _ _=>simp at hlen
  | cons _ _=>simp
 refine wpAny_binaryOp_repeat_ref (T:="list") (U:="int") (by decide) ⟨_,l1,rfl⟩ (λs'=>typeIs_int s' n t) noFill_list_mul PySem.F.fills_int_mul PySem.F.slot_int_rmul repeat_list PySem.F.slot_int_index.lookup
  (call_meets PySem.F.slot_int_rmul (typeIs_int s n t) PySem.F.entry_int_rmul (PySem.F.args_int_rmul_2 _ _) (int___rmul___int_list n t x vs.toArray m)
   ⟨l1,rfl,⟨_,l1,rfl⟩,call_meets PySem.F.slot_list_mul ⟨_,l1,rfl⟩ PySem.F.entry_list_mul (PySem.F.args_list_mul_2 _ _)
    (AutoListH.list___mul___list_int_3 x vs.toArray m n t (by simp[Builtin.List.listFitsIndex];lia) (Nat.not_lt_of_le (Nat.le_trans hsz (by decide))) (by have:=hsz;simp[Builtin.List.listTooLong,sizeLine]at this ⊢;lia))
    ⟨l1,?_⟩⟩)
 refine k _ _ g.push ?_
 rw[hne]
 simp only[Bool.false_eq_true,if_false,listMul_foldl]
 rw[zy]
 refine⟨_,(List.replicate n.toNat vs).flatten,rfl,?_,λq=>q (zap _),((zkD n.toNat q1).flat (X':=nw s) (zgP n.toNat hf)).to (λb o e _=>Heap.get?_push_of_some _ e) λ_ q=>.inl q⟩
 have:=zaB s.heap (List.replicate n.toNat vs).flatten.toArray
 simpa using this
theorem zsl {op:Operator}{a b:Int}{d:D} (h1:zmq op a b=some d):To2 W (binaryOp op) (.int a) (.int b) d:=by
 cases op with
 | Add=>exact zo h1 zwj
 | Sub=>exact zo h1 zvY
 | Mult=>exact zay h1 λh h2=>zo h2 (zwe (ziq h))
 | Mod=>exact zay h1 λh h2=>zo h2 (zwf (bne_iff_ne.mp h))
 | FloorDiv=>exact zay h1 λh h2=>zo h2 (zso (zdM h).1 (zdM h).2)
 | Pow=>exact zay h1 λh h2=>zo h2 (zwb h.1 (Int.le_trans (And.right h) (by decide)))
 | LShift=>exact zay h1 λh h2=>zo h2 (zwa h.1 (Int.le_trans (And.right h) (by decide)))
 | RShift=>exact zay h1 λh h2=>zo h2 (zvZ h)
 | BitAnd=>exact zo h1 zwi
 | BitOr=>exact zo h1 t_or
 | BitXor=>exact zo h1 zvX
 | _=>exact zl (show Option.none=some d from h1)
theorem zss {a b:List Nat} (h:a.length+b.length≤2 ^ 20):To2 W (binaryOp .Add) (.str a) (.str b) (.str (a++b)):=λA s v u _ g r1 r2 Q E k=>by
 refine zV r1 λt=>?_;refine zV r2 λt'=>?_
 refine wpAny_with_toks (n:=s.toks) (Nat.le_refl _) (PyProof.Rows.add_str (λt' tk ht=>k _ _ (g.toks ht) ?_) (by rw[zu,zu];exact Nat.le_trans h (by decide)))
 rw[zgk];exact zN.mpr ⟨_,rfl⟩
theorem zsf {a:List Nat}{b:Int} (h:0≤b∧b≤2 ^ 20∧(a.length:Int)*b≤2 ^ 20):To2 W (binaryOp .Mult) (.str a) (.int b) (.str (List.replicate b.toNat a).flatten):=λA s v u _ g r1 r2 Q E k=>by
 refine zV r1 λt=>?_;refine zW r2 λt'=>?_
 refine wpAny_with_toks (n:=s.toks) (Nat.le_refl _) (SB.mul (zjl h.1 h.2.1 h.2.2) (λt' tk ht=>k _ _ (g.toks ht) ?_))
 rw[znh _ _ h.1];exact zN.mpr ⟨_,rfl⟩
theorem zsq {op:Operator}{a:List Nat}{b d:D} (hp:zcs op (.str a) b=some d):To2 W (binaryOp op) (.str a) b d:=by
 rcases zeD hp with ⟨rfl,hp⟩ | ⟨rfl,hp⟩
 ·exact zfd hp λb h1=>zay h1 λh h2=>zo h2 (zss h)
 ·exact zaf hp λb h1=>zay h1 λh h2=>zo h2 (zsf h)
theorem zsr {op:Operator}{xs:List D}{b d:D} (hp:zcs op (.list xs) b=some d):To2 W (binaryOp op) (.list xs) b d:=by
 rcases zeD hp with ⟨rfl,hp⟩ | ⟨rfl,hp⟩
 ·exact zeb hp λys h1=>zay h1 λh h2=>zo h2 (zst h.1 h.2)
 ·exact zaf hp λn h1=>zay h1 λh h2=>zo h2 (zsg h.1 h.2.1 h.2.2.1 h.2.2.2.1 h.2.2.2.2)
theorem zmN {op:Operator}{a b d:D} (hp:zcs op a b=some d):To2 W (binaryOp op) a b d:=by
 cases a with
 | int a =>
  refine zaf hp λb h1=>?_
  exact zsl h1
 | str a=>exact zsq hp
 | list xs=>exact zsr hp
 | _=>exact zl (show Option.none=some d from hp)
end
end Mine.Internal
end

noncomputable section
open PySem PySem.Calls PyProof.Rows PySem.SeqAt
namespace Mine.Internal
section
variable {W:Wd}
theorem zwh {op:Operator}{a b d:D} (hp:zmj op a b=some d):To2 W (inplaceOp op) a b d:=by
 cases a with
 | int a =>
  refine zaf hp λb h1=>?_
  cases op with
  | Add=>refine zo h1 ?_;exact zsn
  | Sub=>refine zo h1 ?_;exact zsi
  | Mult=>refine zay h1 λh h1=>?_;refine zo h1 ?_;exact zsm (ziq h)
  | LShift=>refine zay h1 λh h1=>?_;refine zo h1 ?_;exact zsk h.1 (Int.le_trans (And.right h) (by decide))
  | RShift=>refine zay h1 λh h1=>?_;refine zo h1 ?_;exact zsj h
  | _=>exact zl (show Option.none=some d from h1)
 | str a =>
  rcases zeD hp with ⟨rfl,hp⟩ | ⟨rfl,hp⟩
  ·refine zfd hp λb h1=>?_
   refine zay h1 λh h1=>?_;refine zo h1 ?_
   refine λA s v u _ g r1 r2 Q E k=>?_
   refine zV r1 λt=>?_;refine zV r2 λt'=>?_
   refine wpAny_with_toks (n:=s.toks) (Nat.le_refl _) (PyProof.Rows.iadd_str (λt' tk ht=>k _ _ (g.toks ht) ?_) (by rw[zu,zu];exact Nat.le_trans h (by decide)))
   rw[zgk];exact zN.mpr ⟨_,rfl⟩
  ·exact nomatch hp
 | _=>exact zl (show Option.none=some d from hp)
theorem t_un {op:UnaryOp}{a d:D} (hp:un1 op a=some d):To1 W (unaryOp op) a d:=by
 cases op with
 | USub=>refine zaf hp λi h=>?_;refine zo h ?_;exact zwd
 | Invert=>refine zaf hp λi h=>?_;refine zo h ?_;exact zwg
 | _=>exact zl (show Option.none=some d from hp)
theorem zko {a:D}{p:Bool} (hp:zbH a=some p):Tru W a p:=by
 cases a with
 | bool b=>refine zo hp ?_;exact zmG
 | int i=>refine zo hp ?_;exact zkp
 | list xs =>
  refine zay hp λhl h1=>?_
  refine zo h1 ?_
  refine λA s v _ g r Q E k=>?_
  refine zbt r λx vs l1 _ q1=>?_
  have hlen:=q1.len
  refine wpAny_truthy_list (zd l1) (by rw[List.size_toArray,hlen];exact Int.lt_of_le_of_lt (Int.ofNat_le.mpr hl) (by decide)) ?_
  have e:(!vs.toArray.isEmpty) = !xs.isEmpty:=by
   cases xs with
   | nil=>rw[List.eq_nil_of_length_eq_zero hlen];rfl
   | cons x xs =>
    cases vs with
    | nil=>exact nomatch hlen
    | cons _ _=>rfl
  rw[e]
  exact k _ g.toks
 | _=>exact zl (show Option.none=some p from hp)
theorem zcc (slice:Expr) (o i:Value):∃ops,subscripted slice false o i=operate ops (getItem o i):=by
 cases slice with
 | Slice l h st p=>cases st<;>exact⟨_,rfl⟩
 | _=>exact⟨_,rfl⟩
theorem zgq {i:Int}{n:Nat} (h0:0≤i) (h1:i.toNat < n):seqIndex? i n=some i.toNat:=by
 have h:¬i < 0:=(Int.not_lt_of_ge h0)
 have h2:(0≤i∧i < (n:Int)):=⟨h0,by lia⟩
 simp only[seqIndex?,h,if_false,Bool.and_eq_true,decide_eq_true_eq,h2,and_self,if_true]
theorem zgr {i:Int}{n:Nat} (h0:¬0≤i) (h1 : -(n:Int)≤i):seqIndex? i n=some (i+n).toNat:=by
 have h:i < 0:=(Int.lt_of_not_ge h0)
 have h2:(0≤i+(n:Int)∧i+(n:Int) < (n:Int)):=⟨by lia,by lia⟩
 simp only[seqIndex?,h,if_true,Bool.and_eq_true,decide_eq_true_eq,h2,and_self]
theorem zrk {α:Type}{xs:List α}{i:Int}{x:α} (h:at? xs i=some x):∃j,xs[j]? = some x∧seqIndex? i xs.length=some j∧-(xs.length:Int)≤i∧i < xs.length∧((0≤i∧j=i.toNat)∨(¬0≤i∧j=(i+xs.length).toNat)):=by
 unfold at? at h
 by_cases h0:0≤i
 ·rw[if_pos h0]at h
  have hlt:=(List.getElem?_eq_some_iff.mp h).1
  exact⟨_,h,zgq h0 hlt,by lia,by lia,.inl ⟨h0,rfl⟩⟩
 ·rw[if_neg h0]at h
  refine zay h λh1 h=>?_
  exact⟨_,h,zgr h0 h1,h1,(Int.le_trans (Int.lt_of_not_ge h0) (Int.natCast_nonneg _)),.inr ⟨h0,rfl⟩⟩
theorem zfA {n:Nat}{i:Int} (hn:n≤2 ^ 20) (h1 : -(n:Int)≤i) (h2:i < n) : -(2 ^ 63:Int)≤i∧i < 2 ^ 63:=by
 have two:(2:Int) ^ 20 < 2 ^ 63:=by decide
 lia
theorem zsw {A:Around}{s:Shared}{X:Addr→Prop}{a b d:D}{v u:Value}{value slice:Expr} (hp:zho a b=some d) (g:Gd W s) (r1:RV s.heap X a v) (r2:RV s.heap X b u) (Q E:Value→Shared→Prop)
  (k:∀r s',Stp W s s'→RV s'.heap X d r→Q r s'):wpAny W.M A (subscriptTail value slice v u) Q E s:=by
 refine xEA (zae hp) λi q1_ hq=>?_;subst q1_
 refine xE (zi.mp r2) λt q1_=>?_;subst q1_
 refine xE (zcc slice v (.int i t)) λops ho=>?_
 cases a with
 | list xs =>
  refine xA (ziy hq) λhl hq=>?_
  refine zjW (zrk hq) λj hj hx b1 b2 hc=>?_
  refine zar (zy.mp r1) λx vs q2_ l1 _ q1=>?_;subst q2_
  refine xEA (q1.at hj) λw hw rw'=>?_
  have n1:=q1.len
  have sm:=zfA hl b1 b2
  rcases hc with ⟨h0,rfl⟩ | ⟨h0,rfl⟩
  ·exact tail_any (zd l1).typeIs slot_list_getitem.lookup (wpAny_getItem_list (zd l1) h0 sm.2 (by rw[List.getElem?_toArray];exact hw) (k _ _ g.refl rw')) ho
  ·exact tail_any (zd l1).typeIs slot_list_getitem.lookup (wpAny_getItem_list_neg (zd l1) (Int.not_le.mp h0) (by rw[List.size_toArray,n1];exact b1) sm.1 (by rw[List.size_toArray,n1,List.getElem?_toArray];exact hw) (k _ _ g.refl rw')) ho
 | tup xs =>
  refine xA (ziy hq) λhl hq=>?_
  refine zjW (zrk hq) λj hj hx b1 b2 hc=>?_
  refine zbb (zgt.mp r1) λx vs q2_ l1 q1=>?_;subst q2_
  refine xEA (q1.at hj) λw hw rw'=>?_
  have n1:=q1.len
  have sm:=zfA hl b1 b2
  have ht:IsTup s.heap x vs.toArray:=l1
  exact tail_any l1.typeIs slot_tuple_getitem.lookup (getItem_tuple (j:=j) ht sm.1 sm.2 (by rw[List.size_toArray,n1];exact hx) (by rw[List.getElem?_toArray];exact hw) (k _ _ g.refl rw')) ho
 | str xs =>
  refine xA (ziy hq) λhl hq=>?_
  refine xEA (zhf hq) λc hc q2_=>?_;subst q2_
  refine zjW (zrk hc) λj hj hx b1 b2 _=>?_
  refine xE (zN.mp r1) λt' q1_=>?_;subst q1_
  have sm:=zfA hl b1 b2
  refine tail_any (typeIs_str s _ _) PySem.F.slot_str_getitem.lookup (getItem_str ?_ ?_ (k _ _ g.toks (zN.mpr ⟨_,rfl⟩))) ho
  ·rw[decide_eq_false (Int.not_lt.mpr sm.1),decide_eq_false (Int.not_le.mpr sm.2)];rfl
  ·rw[zu,hx]
   exact(List.getElem?_toArray ..).trans hj
 | _=>exact zl (show Option.none=some d from hq)
theorem zlU (n:Nat) (i:Int):zeu n i=clipAt n i:=by
 unfold zeu
 by_cases h:0≤i
 ·rw[if_pos h]
  obtain⟨a,rfl⟩:=Int.eq_ofNat_of_zero_le h
  exact(clipAt_nat n a).symm
 ·rw[if_neg h]
  unfold clipAt
  rw[if_pos (Int.lt_of_not_ge h),Int.min_eq_left (Int.le_trans (Int.add_le_add_right (Int.le_of_lt (Int.lt_of_not_ge h)) _) (Int.le_of_eq (Int.zero_add _)))]
  rcases Int.le_total 0 (i+n) with q | q
  ·rw[Int.max_eq_right q]
  ·rw[Int.max_eq_left q,Int.toNat_eq_zero.mpr q];rfl
theorem zfb {α:Type} (xs:List α) (lo hi:Option Int) :
  (sliceRange (sliceBounds lo hi none xs.length).1 (sliceBounds lo hi none xs.length).2.1 (sliceBounds lo hi none xs.length).2.2).filterMap (xs.toArray[·]?) =
   (xs.take (hi.elim xs.length (zeu xs.length))).drop (lo.elim 0 (zeu xs.length)):=by
 rw[sliceBounds_plain]
 simp only[sliceRange_one,pick_run]
 have e:zeu xs.length=clipAt xs.length:=funext λi=>zlU _ _
 rw[e,List.drop_take]
theorem zii {α:Type} (xs:List α):((List.range xs.length).map λk=>xs.length - 1 - k).filterMap (xs.toArray[·]?)=xs.reverse:=by
 have cong:∀(l:List Nat) (f g:Nat→Option α),(∀k∈l,f k=g k)→l.filterMap f=l.filterMap g:=by
  intro l f g h
  induction l with
  | nil=>rfl
  | cons a l ih=>rw[List.filterMap_cons,List.filterMap_cons,h a (.head _),ih λk hk=>h k (.tail _ hk)]
 rw[List.filterMap_map]
 have:(List.range xs.length).filterMap ((λi=>xs.toArray[i]?) ∘ λk=>xs.length - 1 - k)=(List.range xs.length).filterMap (λk=>xs.reverse[k]?):=by
  apply cong
  intro k hk
  rw[List.mem_range]at hk
  simp[List.getElem?_reverse hk]
 rw[this]
 have:∀(ys:List α),(List.range ys.length).filterMap (ys[·]?)=ys:=by
  intro ys
  induction ys with
  | nil=>rfl
  | cons y ys ih =>
   rw[List.length_cons,List.range_succ_eq_map,List.filterMap_cons,List.filterMap_map]
   simp only[List.getElem?_cons_zero]
   rw[show((λi=>(y::ys)[i]?) ∘ Nat.succ)=λi=>ys[i]? from funext λi=>by simp,ih]
 have h:=this xs.reverse
 rw[List.length_reverse]at h
 exact h
theorem zfB (items:Array Value):slicePick items none none (some (-1))=items.toList.reverse.toArray:=by
 have h:=zii items.toList
 have h2:=picked_rev items.size
 unfold slicePick
 congr 1
 have:sliceRange (sliceBounds none none (some (-1)) items.size).1 (sliceBounds none none (some (-1)) items.size).2.1 (sliceBounds none none (some (-1)) items.size).2.2=(List.range items.size).map λk=>items.size - 1 - k:=h2
 rw[this]
 simpa using h
theorem zeG (xs:List Value) (lo hi:Option Int):slicePick xs.toArray lo hi none=((xs.take (hi.elim xs.length (zeu xs.length))).drop (lo.elim 0 (zeu xs.length))).toArray:=by
 unfold slicePick
 have:=zfb xs lo hi
 simp only[List.size_toArray]
 rw[this]
end
end Mine.Internal
end

noncomputable section
open PySem PySem.Calls PyProof.Rows PySem.SeqAt
namespace Mine.Internal
section
variable {W:Wd}
theorem zQ {h:Heap}{X:Addr→Prop}{vs:List Value} (r:RVs h X [] vs):vs=[]:=r
theorem zdE {h:Heap}{X:Addr→Prop}{d:D}{ds:List D}{vs:List Value} (r:RVs h X (d::ds) vs):∃v u,vs=v::u∧RV h X d v∧RVs h X ds u:=r
theorem zxZ {h:Heap}{X:Addr→Prop}{d:D}{vs:List Value} (r:RVs h X [d] vs):∃v,vs=[v]∧RV h X d v:=by
 refine zbb (zdE r) λv u q2_ r1 r2=>?_;subst q2_
 exact⟨v,by rw[zQ r2],r1⟩
theorem zvn {h:Heap}{X:Addr→Prop}{d e:D}{vs:List Value} (r:RVs h X [d,e] vs):∃v u,vs=[v,u]∧RV h X d v∧RV h X e u:=by
 refine zbb (zdE r) λv u q2_ r1 r2=>?_;subst q2_
 refine xEA (zxZ r2) λu' q1_ r3=>?_;subst q1_
 exact⟨v,u',rfl,r1,r3⟩
@[elab_as_elim] theorem zch {P:List Value→Prop}{h:Heap}{X:Addr→Prop}{d:D}{vs:List Value} (r:RVs h X [d] vs) (k:∀v,RV h X d v→P [v]):P vs :=
 (zxZ r).elim λv y=>y.1▸k v y.2
@[elab_as_elim] theorem zmV {P:List Value→Prop}{h:Heap}{X:Addr→Prop}{d e:D}{vs:List Value} (r:RVs h X [d,e] vs) (k:∀v u,RV h X d v→RV h X e u→P [v,u]):P vs :=
 (zvn r).elim λv y=>y.elim λu y=>y.1▸k v u y.2.1 y.2.2
@[elab_as_elim] theorem zao {P:List Value→Prop}{h:Heap}{X:Addr→Prop}{d:D}{ds:List D}{vs:List Value} (r:RVs h X (d::ds) vs) (k:∀v u,RV h X d v→RVs h X ds u→P (v::u)):P vs :=
 (zdE r).elim λv y=>y.elim λu y=>y.1▸k v u y.2.1 y.2.2
theorem zfG {h:Heap}{X:Addr→Prop}:∀{ds:List D}{l:List Int}{vs:List Value},zbD ds=some l→RVs h X ds vs→∃ps:List (Int×Tok),vs=ps.map (λp=>.int p.1 p.2)∧ps.map (·.1)=l
 | [],l,vs,hl,r=>by
  cases zQ r
  cases hl
  exact⟨[],rfl,rfl⟩
 | d::ds,l,vs,hl,r=>by
  refine zao r λv u r1 r2=>?_
  refine xEA (zae hl) λa q_ hl=>?_
  subst q_
  refine zhB hl λl' hq=>?_
  refine xEA (zfG hq r2) λps q1_ e=>?_;subst q1_
  refine zW r1 λt=>?_
  exact⟨(_,t)::ps,rfl,congrArg (a::·) e⟩
theorem zjw (ps:List (Int×Tok)):IntsAre (ps.map λp=>.int p.1 p.2) (ps.map (·.1)):=by
 induction ps with
 | nil=>exact .nil
 | cons p ps ih=>exact .cons _ _ ih
theorem zdq (val:Nat→Int):∀n,preSum val n=((List.range n).map val).foldl (· + ·) 0
 | 0=>rfl
 | n+1=>by rw[preSum,zdq val n,List.range_succ,List.map_append,List.foldl_append];rfl
theorem zja (l:List Int):(List.range l.length).map (λi=>l.getD i 0)=l:=by
 apply List.ext_getElem
 ·simp
 ·intro i h1 h2
  simp at h1
  simp[h1]
theorem zjJ {xs:List D} (hl:xs.length≤2 ^ 20):ToL W (λvs=>call (.builtin "len") vs) [.list xs] (.int xs.length):=λA s vs hr g r Q E k=>by
 refine zch r λv r1=>?_
 refine zbt r1 λa us l1 _ q1=>?_
 have n1:=q1.len
 have e:((us.toArray.size:Nat):Int)=(xs.length:Nat):=by simp[n1]
 exact PyProof.Rows.len_list (zd l1) (by simp only[List.size_toArray];lia) (k _ _ g.toks (zi.mpr ⟨s.toks+1,by rw[e]⟩))
theorem zmi {x:List Nat} (hl:x.length≤2 ^ 20):ToL W (λvs=>call (.builtin "len") vs) [.str x] (.int x.length):=λA s vs hr g r Q E k=>by
 refine zch r λv r1=>?_
 refine zV r1 λt=>?_
 exact PyProof.Rows.len_str (by rw[zu];lia) (k _ _ g.toks (zi.mpr ⟨s.toks+1,by rw[zu]⟩))
theorem zxx {xs:List D}{l:List Int} (hl:zbD xs=some l):ToL W (λvs=>call (.builtin "sum") vs) [.list xs] (.int (zn l)):=λA s vs hr g r Q E k=>by
 refine zch r λv r1=>?_
 refine zbt r1 λa us l1 _ q1=>?_
 refine xEA (zfG hl q1) λps q1_ q2_=>?_;subst q1_;subst q2_
 have hlt:a < s.heap.objs.size:=by refine xE l1 λn e=>?_;clear l1;exact Heap.lt_size e
 refine wpAny_with_toks (n:=s.toks) (Nat.le_refl _) (call_sum_walkG (wpAny_pyIter_list (zd l1) ?_))
 refine⟨_,_,_,_,_,_,(λi=>(ps.map (·.1)).getD i 0),rfl,Walks.list (A:=A.in1) hr.1 s.heap.objs.size a (Nat.ne_of_lt hlt) (ps.map (λp=>Value.int p.1 p.2)).toArray,⟨⟨_,Heap.get?_push_size _ rfl,rfl,rfl⟩,(zd l1).push _⟩,?_,?_,?_⟩
 ·intro b hb
  have e:(s.heap.push {cls:=.type "list_iterator",data:=.fields #[.ref a,.int 0 0]}).objs.size=s.heap.objs.size+1:=Heap.size_push ..
  show b < (s.heap.push {cls:=.type "list_iterator",data:=.fields #[.ref a,.int 0 0]}).objs.size
  rw[e]
  rcases List.mem_cons.mp hb with rfl | hb
  ·exact Nat.lt_succ_self _
  ·rw[List.mem_singleton.mp hb];exact Nat.lt_succ_of_lt hlt
 ·intro i v hv
  simp only[List.getElem?_toArray,List.getElem?_map,Option.map_eq_some_iff]at hv
  refine xEA hv λp hp q2_=>?_;clear hv;subst q2_
  exact⟨p.2,by simp[hp]⟩
 ·intro h' tk t' hk ht
  have e:preSum (λi=>(ps.map (·.1)).getD i 0) (ps.map (λp=>Value.int p.1 p.2)).toArray.size=zn (ps.map (·.1)):=by
   rw[zdq]
   have:=zja (ps.map (·.1))
   simp only[List.size_toArray,List.length_map]at this ⊢
   rw[this];rfl
  refine k _ _ (g.keeps (λb o q=>hk b o (λhb=>?_) (Heap.get?_push_of_some _ q)) (show s.toks≤tk from ht)) (zi.mpr ⟨t',by rw[e]⟩)
  rw[List.mem_singleton.mp hb]at q
  exact absurd (Heap.lt_size q) (Nat.lt_irrefl _)
theorem zlg:∀{l:List Int}{m:Int},zvq l=some m→m∈l∧∀a∈l,a≤m
 | [],m,h=>by cases h
 | a::l,m,h=>by
  have h:=Option.some.inj (show some (l.foldl (λm x=>if x > m then x else m) a)=some m from h)
  have key:∀(l:List Int) (a:Int),(l.foldl (λm x=>if x > m then x else m) a∈a::l)∧a≤l.foldl (λm x=>if x > m then x else m) a∧∀b∈l,b≤l.foldl (λm x=>if x > m then x else m) a:=by
   intro l
   induction l with
   | nil=>intro a;exact⟨.head _,Int.le_refl _,λb hb=>nomatch hb⟩
   | cons x l ih =>
    intro a
    refine xAA (ih (if x > a then x else a)) λh1 h2 h3=>?_
    rw[List.foldl_cons]
    refine⟨?_,?_,λb hb=>?_⟩
    ·rcases List.mem_cons.mp h1 with e | e
     ·rw[e];split
      ·exact .tail _ (.head _)
      ·exact .head _
     ·exact .tail _ (.tail _ e)
    ·refine Int.le_trans ?_ h2;split<;>lia
    ·rcases List.mem_cons.mp hb with rfl | hb
     ·refine Int.le_trans ?_ h2;split<;>lia
     ·exact h3 b hb
  refine xAA (key l a) λh1 h2 h3=>?_
  rw[h]at h1 h2 h3
  exact⟨h1,λb hb=>by rcases List.mem_cons.mp hb with rfl | hb;exact h2;exact h3 b hb⟩
theorem zxz {xs:List D}{l:List Int}{m:Int} (hl:zbD xs=some l) (hm:zvq l=some m):ToL W (λvs=>call (.builtin "max") vs) [.list xs] (.int m):=λA s vs hr g r Q E k=>by
 refine zch r λv r1=>?_
 refine zbt r1 λa us l1 _ q1=>?_
 refine xEA (zfG hl q1) λps q1_ q2_=>?_;subst q1_;subst q2_
 refine xA (zlg hm) λm1 m2=>?_
 have hne:0 < ps.toArray.size:=by
  cases ps with
  | nil=>cases hm
  | cons p ps=>simp
 have e:(ps.map (λp=>Value.int p.1 p.2)).toArray=intItems ps.toArray:=by simp[intItems]
 rw[e]at l1
 refine wpAny_with_toks (n:=s.toks) (Nat.le_refl _) (max_intList hr.1 (zd l1) hne λv h' tk hv hk ht=>?_)
 refine xE (intItems_at hv) λt q1_=>?_;subst q1_
 refine xA (argBest_gt (numAt ps.toArray) (ps.toArray.size - 1)) λh1 h2=>?_
 have e2:numAt ps.toArray (argBest (λi j=>decide (numAt ps.toArray i > numAt ps.toArray j)) (ps.toArray.size - 1))=m:=by
  refine Int.le_antisymm (m2 _ ?_) ?_
  ·rw[numAt_eq]
   have hlt:argBest (λi j=>decide (numAt ps.toArray i > numAt ps.toArray j)) (ps.toArray.size - 1) < (ps.toArray.toList.map (·.1)).length:=by
    simp at hne ⊢;simp at h1;lia
   rw[List.getD_eq_getElem?_getD,List.getElem?_eq_getElem hlt]
   have:=List.getElem_mem hlt
   simpa using this
  ·obtain⟨j,hj,e3⟩:=List.getElem_of_mem m1
   have:=h2 j (by simp at hj ⊢;lia)
   rw[numAt_eq]at this
   have e4:(ps.toArray.toList.map (·.1)).getD j 0=m:=by
    rw[List.getD_eq_getElem?_getD,List.getElem?_eq_getElem (by simpa using hj)]
    simpa using e3
   rwa [e4]at this
 exact k _ _ (g.keeps hk ht) (zi.mpr ⟨t,by rw[e2]⟩)
theorem zuU {a b:Int}:ToL W (λvs=>call (.builtin "max") vs) [.int a,.int b] (.int (if b > a then b else a)):=λA s vs hr g r Q E k=>by
 refine zmV r λv u r1 r2=>?_
 refine zW r1 λt=>?_
 refine zW r2 λt'=>?_
 refine wpAny_with_toks (n:=s.toks) (Nat.le_refl _) (max_two_ints hr.1 λh' tk hk ht=>k _ _ (g.keeps hk ht) ?_)
 split<;>exact zi.mpr ⟨_,rfl⟩
theorem zxA {a:Int} (h0:0≤a) (h1:a≤1114111):ToL W (λvs=>call (.builtin "chr") vs) [.int a] (.str [a.toNat]):=λA s vs hr g r Q E k=>by
 refine zch r λv r1=>?_
 refine zW r1 λt=>?_
 exact chr_of_range h0 h1 (k _ _ g.toks (zN.mpr ⟨_,rfl⟩))
theorem zuT {c:Nat}:ToL W (λvs=>call (.builtin "ord") vs) [.str [c]] (.int c):=λA s vs hr g r Q E k=>by
 refine zch r λv r1=>?_
 refine zV r1 λt=>?_
 exact ord_of_one rfl (k _ _ g.toks (zi.mpr ⟨_,rfl⟩))
theorem znZ {a b:Int} (h:zby a b=true):ToL W (λvs=>call (.builtin "divmod") vs) [.int a,.int b] (.tup [.int (a.fdiv b),.int (a.fmod b)]):=λA s vs hr g r Q E k=>by
 refine zmV r λv u r1 r2=>?_
 refine zW r1 λt=>?_
 refine zW r2 λt'=>?_
 refine divmod_int (zdM h).1 (k _ _ (g.keeps λb o q=>Heap.get?_push_of_some _ q) ?_) (.inl (zdM h).2)
 exact zgt.mpr ⟨_,[_,_],rfl,⟨_,Heap.get?_push_size _ rfl,rfl,0,rfl⟩,.cons (zi.mpr ⟨_,rfl⟩) (.one (zi.mpr ⟨_,rfl⟩))⟩
end
end Mine.Internal
end

noncomputable section
open PySem PySem.Calls PyProof.Rows PySem.SeqAt
namespace Mine.Internal
section
variable {W:Wd}
theorem zfH:∀{ds:List D}{l:List Int},zbD ds=some l→ds=l.map .int
 | [],l,h=>by cases h;rfl
 | d::ds,l,h=>by
  refine xEA (zae h) λa q_ h=>?_
  subst q_
  refine zhB h λl' hq=>?_
  rw[List.map_cons,← zfH hq]
theorem zdZ {P:Nat→Value→Prop}{h:Heap}{X:Addr→Prop}{a:Int}{acc:Array Value}{n:Nat} (hP:∀i v,P i v→∃t,v = .int (a+i*1) t) (hi:ItemsOf P acc n) :
  RVs h X ((List.range n).map λ(i:Nat)=>.int (a+(i:Int))) acc.toList:=by
 refine xA hi λh1 h2=>?_;clear hi
 have key:∀(l:List Value) (k:Nat),(∀j v,l[j]? = some v→P (k+j) v)→RVs h X ((List.range' k l.length).map λ(i:Nat)=>.int (a+(i:Int))) l:=by
  intro l
  induction l with
  | nil=>intro k _;exact .nil
  | cons v l ih =>
   intro k hk
   rw[List.length_cons,List.range'_succ,List.map_cons]
   refine xE (hP _ _ (hk 0 v rfl)) λt q1_=>?_;subst q1_
   refine .cons (zi.mpr ⟨t,by simp⟩) (ih (k+1) λj v hj=>?_)
   have:=hk (j+1) v (by simpa using hj)
   rwa [show k+(j+1)=k+1+j by lia]at this
 have:=key acc.toList 0 (λj v hj=>by simpa using h2 j v (by simpa using hj))
 rw[List.range_eq_range']
 rwa [show acc.toList.length=n by simpa using h1]at this
theorem znY {s:Shared}{A:Around}{a b:Int}{r:Addr}{t u v:Tok} (hr:Rm 0 A) (g:Gd W s) (ir:IsRange s.heap r a b 1 t u v) (ha : -2 ^ 20≤a) (hb:b≤2 ^ 20) (Q E:Value→Shared→Prop)
  (ha':a≤2 ^ 20) (hb' : -2 ^ 20≤b)
  (k:∀v s',Stp W s s'→RV s'.heap (nw s) (.list (zX a b)) v→Q v s'):wpAny W.M A (call (.type "list") [.ref r]) Q E s:=by
 have two:(2:Int) ^ 20 < 2 ^ 62:=by decide
 have hn:Builtin.Range.rangeSize a b 1=((b - a).toNat:Nat):=by rw[rangeSize_one];split<;>lia
 refine wpAny_with_toks (n:=s.toks) (Nat.le_refl _) (call_list_range hr.1 ir (small_one (by lia) (by lia) (by lia) (by lia)) hn (by
  have:(2:Int) ^ 20=1048576:=by decide
  have h24:2 ^ 24=16777216:=by decide
  lia) λh' tk acc' c' hk hS hi ht=>k _ _ (g.keeps hk ht) ?_)
 have:=zdZ (h:=h') (X:=nw s) (a:=a) (λi v q=>q) hi
 exact zy.mpr ⟨_,acc'.toList,rfl,⟨c',by simpa using hS⟩,λq=>q (zap _),this⟩
noncomputable def zry (W:Wd) (T id:String) (a:D) (ds:List D) (d:D):Prop :=
 (∀(s:Shared) v,RV s.heap W.X a v→s.TypeIs v T∧∀b,v = .ref b→∃ob,s.heap.get? b=some ob∧ob.dict=none) ∧
 ∀A s v vs,Rm 0 A→Gd W s→RV s.heap W.X a v→RVs s.heap W.X ds vs→∀(Q E:Value→Shared→Prop),(∀r s',Stp W s s'→RV s'.heap (nw s) d r→Q r s')→wpAny W.M A (call (.builtin id) (v::vs)) Q E s
structure MtOk (name:Str) (T id:String):Prop where
 pa:PlainAttrs T
 slot:Slot T name id
 ty:typeOf (.builtin id)=pure (.type "method_descriptor")
theorem zfy (s:Shared) {x:List Nat}{v:Value} (r:RV s.heap W.X (.str x) v):s.TypeIs v "str"∧∀b,v = .ref b→∃ob,s.heap.get? b=some ob∧ob.dict=none:=by
 refine zV r λt=>?_
 exact⟨typeIs_str _ _ _,λ_ e=>nomatch e⟩
theorem znv (s:Shared) {x:Int}{v:Value} (r:RV s.heap W.X (.int x) v):s.TypeIs v "int"∧∀b,v = .ref b→∃ob,s.heap.get? b=some ob∧ob.dict=none:=by
 refine zW r λt=>?_
 exact⟨typeIs_int _ _ _,λ_ e=>nomatch e⟩
theorem zlk (s:Shared) {x:List D}{v:Value} (r:RV s.heap W.X (.list x) v):s.TypeIs v "list"∧∀b,v = .ref b→∃ob,s.heap.get? b=some ob∧ob.dict=none:=by
 refine zbb (zy.mp r) λa us q2_ l1 _=>?_;subst q2_
 refine⟨(zd l1).typeIs,λb e=>?_⟩
 cases e
 refine xE l1 λn e=>?_;clear l1
 exact⟨_,e,rfl⟩
theorem zkv {h:Heap}{X:Addr→Prop}:∀{ds:List D}{l:List (List Nat)}{vs:List Value},zcZ ds=some l→RVs h X ds vs→∃ps:List (Str×Tok),vs=strValues ps∧ps.map (·.1)=l.map sv
 | [],l,vs,hl,r=>by
  cases zQ r
  cases hl
  exact⟨[],rfl,rfl⟩
 | d::ds,l,vs,hl,r=>by
  refine zao r λv u r1 r2=>?_
  refine xEA (zF hl) λa q_ hl=>?_
  subst q_
  refine zhB hl λl' hq=>?_
  refine xEA (zkv hq r2) λps q1_ e=>?_;subst q1_
  refine zV r1 λt=>?_
  exact⟨(_,t)::ps,rfl,congrArg (sv a::·) e⟩
theorem zjx (l:List (List Nat)):Builtin.Str.glued (sv []) (l.map sv)=sv l.flatten:=by
 unfold Builtin.Str.glued
 have key:∀(l:List (List Nat)) (acc:Array Nat),(l.map sv).foldl (λacc p=>acc++(sv []).cps++p.cps) acc=acc++l.flatten.toArray:=by
  intro l
  induction l with
  | nil=>intro acc;simp
  | cons x l ih=>intro acc;rw[List.map_cons,List.foldl_cons,ih];simp
 cases l with
 | nil=>rfl
 | cons x l =>
  simp only[List.map_cons,List.drop_succ_cons,List.drop_zero,List.headD_cons]
  rw[key];simp
theorem ztH {ys:List D}{l:List (List Nat)} (hl:zcZ ys=some l) (hz:(l.map (·.length)).sum+l.length≤2 ^ 20):zry W "str" "str.join" (.str []) [.list ys] (.str l.flatten) :=
 ⟨λs v r=>zfy s r,λA s v vs hr g r q Q E k=>by
  refine zV r λt=>?_
  refine zch q λu r1=>?_
  refine zbt r1 λa us l1 _ q1=>?_
  refine xEA (zkv hl q1) λps q1_ e=>?_;subst q1_
  refine wpAny_with_toks (n:=s.toks) (Nat.le_refl _) (SC.join (zd l1) e (joinOk_of_weight (by
   have:((l.map sv).map (·.length))=l.map (·.length):=by simp[Function.comp_def,Str.length]
   rw[this,List.length_map];exact hz) (by decide)) λt' tk ht=>k _ _ (g.toks ht) (zN.mpr ⟨t',?_⟩))
  show Value.str (Builtin.Str.glued (sv []) (l.map sv)) t'=_
  rw[zjx]⟩
theorem zqi {x y:List Nat}:zry W "str" "str.count" (.str x) [.str y] (.int (Txt.count (sv x) (sv y))) :=
 ⟨λs v r=>zfy s r,λA s v vs hr g r q Q E k=>by
  refine zV r λt=>?_
  refine zch q λu r1=>?_
  refine zV r1 λt'=>?_
  exact SC.count (k _ _ g.toks (zi.mpr ⟨_,rfl⟩))⟩
theorem znm {x y:List Nat}{n:Nat}:zry W "str" "str.count" (.str x) [.tk y n] (.int (Txt.count (sv x) (sv y))) :=
 ⟨λs v r=>zfy s r,λA s v vs hr g r q Q E k=>by
  refine zV r λt=>?_
  refine zch q λu r1=>?_
  simp only[zyb]at r1;subst r1
  exact SC.count (k _ _ g.toks (zi.mpr ⟨_,rfl⟩))⟩
theorem znl {xs:List D}{d:D}{n:Nat} (h:ziM d xs=some n):zry W "list" "list.count" (.list xs) [d] (.int n) :=
 ⟨λs v r=>zlk s r,λA s v vs hr g r q Q E k=>by
  obtain⟨a,us,rfl,⟨m,l1⟩,_,q1⟩:=zy.mp r
  refine zch q λu r1=>?_
  unfold ziM at h
  cases hl:zrw d xs with
  | none=>rw[hl]at h;cases h
  | some l =>
   rw[hl]at h
   refine xA (zhI (A:=A) (s:=s) r1 hl q1) λe1 e2=>?_
   have hn:l.countP id=n:=Option.some.inj h
   refine call_meets PySem.F.slot_list_count ⟨_,l1,rfl⟩ PySem.F.entry_list_count (PySem.F.args_list_count_2 _ _) (list_countAt a us.toArray m none #[] u (zhn d))
    ⟨l1,λy hy=>(e1 y (by simpa using hy)).at _ _,k _ _ g.toks (zi.mpr ⟨s.toks,?_⟩)⟩
   rw[← hn,e2,List.countP_map]
   rfl⟩
theorem ztI {a:Int}:zry W "int" "int.bit_length" (.int a) [] (.int (Builtin.Int.intBits a)) :=
 ⟨λs v r=>znv s r,λA s v vs hr g r q Q E k=>by
  refine zW r λt=>?_
  cases zQ q
  exact call_gives PySem.F.slot_int_bit_length (typeIs_int s a t) PySem.F.entry_int_bit_length (PySem.F.args_int_bit_length_1 _) (AutoIntG2.int_bit_length_int_0 a t) (k _ _ g.toks (zi.mpr ⟨_,rfl⟩))⟩
noncomputable def zld:Mth→Str
 | .join=>"join"
 | .count=>"count"
 | .bits=>"bit_length"
noncomputable def zow:Mth→D→String
 | .join,_=>"str"
 | .bits,_=>"int"
 | .count,.list _=>"list"
 | .count,_=>"str"
noncomputable def zye:Mth→D→String
 | .join,_=>"str.join"
 | .bits,_=>"int.bit_length"
 | .count,.list _=>"list.count"
 | .count,_=>"str.count"
theorem zwF (m:Mth) (a:D):MtOk (zld m) (zow m a) (zye m a):=by
 cases m
 ·exact⟨PySem.F.plainAttrs_str,PySem.F.slot_str_join,PySem.F.type_str_join⟩
 ·cases a<;>first
   | exact⟨PySem.F.plainAttrs_str,PySem.F.slot_str_count,PySem.F.type_str_count⟩
   | exact⟨PySem.F.plainAttrs_list,PySem.F.slot_list_count,PySem.F.type_list_count⟩
 ·exact⟨PySem.F.plainAttrs_int,PySem.F.slot_int_bit_length,PySem.F.type_int_bit_length⟩
theorem zsh {m:Mth}{a d:D}{ds:List D} (h:zeK m a ds=some d):zry W (zow m a) (zye m a) a ds d:=by
 cases m with
 | join =>
  refine zfd h λx h1=>?_
  refine xA (zgC h1) λq0_ h2=>?_;subst q0_
  refine zkV h2 λe h3=>?_
  refine zeb h3 λys h4=>?_
  refine zf h4 λl hl h5=>?_
  refine zay h5 λhz h6=>?_
  refine zo h6 ?_
  exact ztH hl hz
 | count =>
  refine zkV h λe h1=>?_
  cases a with
  | str x =>
   cases e with
   | str y=>refine zo h1 ?_;exact zqi
   | tk y t=>refine zo h1 ?_;exact znm
   | _=>exact zl (show Option.none=some d from h1)
  | list xs =>
   refine zhB h1 λn hl=>?_
   exact znl hl
  | _=>exact zl (show Option.none=some d from h1)
 | bits =>
  refine zaf h λx h1=>?_
  refine xA (zgC h1) λq0_ h2=>?_;subst q0_
  refine zo h2 ?_
  exact ztI
end
end Mine.Internal
end

noncomputable section
open PySem PySem.Calls PyProof.Rows PySem.SeqAt
namespace Mine.Internal
section
variable {W:Wd}{κ:Kd}{c:Cx}{ρ:zc}{pos:Pos}
theorem zoG {e i:Expr}{a b d:D} (h1:Ev W κ c ρ e a) (h2:Ev W .al c ρ i b) (h3:zho a b=some d):Ev W κ c ρ (.Subscript e i pos) d:=λo s rl Q E k =>
 Subscript_ (h1 o s rl _ _ λv s1 x1 r1=>h2 o s1 (rl.mono x1) _ _ λu s2 x2 r2=>by
  have r1':=r1.step x1.g x2 zcK
  refine xEA (zae h3) λn q1_ _=>?_;subst q1_
  exact zsw h3 x2.gd r1' (zi.mpr (zi.mp r2)) Q E λr s3 x3 r3=>k _ _ ((x1.trans x2).trans x3) r3)
noncomputable def EvP (W:Wd) (c:Cx) (ρ:zc) (e:Option Expr) (d:D):Prop:=match e with
 | none=>d = .none
 | some e=>Ev W .al c ρ e d
theorem EvP.run {e:Option Expr}{d:D} (h:EvP W c ρ e d) {o:Nat→Option Addr}{s:Shared} (rl:Rel W c o ρ s) (Q E:Value→Shared→Prop) (k:∀v s',Stp W s s'→RV s'.heap W.X d v→Q v s') :
  wpAny W.M c.A (evalPart e c.env) Q E s:=by
 cases e with
 | none=>have h:d = .none:=h;subst h;exact wpAny_pure (k _ _ rl.gd.refl rfl)
 | some e=>exact h o s rl Q E λv s' x r=>k v s' x r
theorem zjz {xs:List D}:∀n,zg xs=true→zg (xs.take n)=true:=by
 induction xs with
 | nil=>intro n h;simpa using h
 | cons x xs ih =>
  intro n h
  simp only[zde,Bool.and_eq_true]at h
  cases n with
  | zero=>rfl
  | succ n=>simp only[List.take_succ_cons,zde,Bool.and_eq_true];exact⟨h.1,ih n h.2⟩
theorem zjA {xs:List D}:∀n,zg xs=true→zg (xs.drop n)=true:=by
 induction xs with
 | nil=>intro n h;simpa using h
 | cons x xs ih =>
  intro n h
  cases n with
  | zero=>exact h
  | succ n=>simp only[zde,Bool.and_eq_true]at h;exact ih n h.2
theorem RVs.take {h:Heap}{X:Addr→Prop}:∀{ds:List D}{vs:List Value} (n:Nat),RVs h X ds vs→RVs h X (ds.take n) (vs.take n)
 | [],vs,n,r=>by cases zQ r;cases n<;>exact RVs.nil
 | d::ds,vs,n,r=>by
  refine zao r λv u r1 r2=>?_
  cases n with
  | zero=>exact .nil
  | succ n=>exact .cons r1 (r2.take n)
theorem RVs.drop {h:Heap}{X:Addr→Prop}:∀{ds:List D}{vs:List Value} (n:Nat),RVs h X ds vs→RVs h X (ds.drop n) (vs.drop n)
 | [],vs,n,r=>by cases zQ r;cases n<;>exact RVs.nil
 | d::ds,vs,n,r=>by
  refine zao r λv u r1 r2=>?_
  cases n with
  | zero=>exact .cons r1 r2
  | succ n=>exact r2.drop n
theorem RVs.rev {h:Heap}{X:Addr→Prop}:∀{ds:List D}{vs:List Value},RVs h X ds vs→RVs h X ds.reverse vs.reverse
 | [],vs,r=>by cases zQ r;exact .nil
 | d::ds,vs,r=>by
  refine zao r λv u r1 r2=>?_
  rw[List.reverse_cons,List.reverse_cons]
  exact r2.rev.append (.one r1)
theorem zaX:∀{xs ys:List D},zg xs=true→zg ys=true→zg (xs++ys)=true
 | [],ys,_,h=>h
 | x::xs,ys,h1,h2=>by
  simp only[zde,Bool.and_eq_true]at h1
  simp only[List.cons_append,zde,Bool.and_eq_true]
  exact⟨h1.1,zaX h1.2 h2⟩
theorem zcO:∀{xs:List D},zg xs=true→zg xs.reverse=true
 | [],h=>h
 | x::xs,h=>by
  simp only[zde,Bool.and_eq_true]at h
  rw[List.reverse_cons]
  exact zaX (zcO h.2) (by simp[zmr,zde,h.1])
noncomputable def dOf (p:Option Int):D:=match p with
 | none=>.none
 | some i=>.int i
noncomputable def zot {α:Type} (xs:List α) (lo hi:Option Int):List α:=(xs.take (hi.elim xs.length (zeu xs.length))).drop (lo.elim 0 (zeu xs.length))
theorem zdb {h:Heap}{X:Addr→Prop}{p:Option Int}{v:Value} (r:RV h X (dOf p) v):∃q:Option (Int×Tok),q.map (·.1)=p∧v=partValue q∧IsPart v p:=by
 cases p with
 | none=>exact⟨none,rfl,r,(show v = .none from r)▸.none⟩
 | some i=>refine zW r λt=>?_;exact⟨some (i,t),rfl,rfl,.int i t⟩
theorem zfa {α:Type}{xs:List α}{l h st:D}{ys:List α} (hs:zmo xs l h st=some ys):(∃lo hi,l=dOf lo∧h=dOf hi∧st = .none∧ys=zot xs lo hi)∨(l = .none∧h = .none∧st = .int (-1)∧ys=xs.reverse):=by
 have tl:∀{lo:Option Int},(xs.drop (lo.elim 0 (zeu xs.length)))=zot xs lo none:=λ{lo}=>by unfold zot;rw[Option.elim_none,List.take_length]
 cases l with
 | none =>
  cases h with
  | none =>
   refine zaf hs λi h1=>?_
   refine xA (ziy h1) λq0_ h2=>?_;subst q0_
   exact .inr ⟨rfl,rfl,rfl,zp h2⟩
  | int b=>refine xA (zcF hs) λq0_ h1=>?_;subst q0_;exact .inl ⟨none,some b,rfl,rfl,rfl,zp h1⟩
  | _=>exact zl (show Option.none=some ys from hs)
 | int a =>
  cases h with
  | none=>refine xA (zcF hs) λq0_ h1=>?_;subst q0_;exact .inl ⟨some a,none,rfl,rfl,rfl,(zp h1).trans (tl (lo:=some a))⟩
  | int b=>refine xA (zcF hs) λq0_ h1=>?_;subst q0_;exact .inl ⟨some a,some b,rfl,rfl,rfl,zp h1⟩
  | _=>exact zl (show Option.none=some ys from hs)
 | _=>exact zl (show Option.none=some ys from hs)
theorem zij {α:Type}{xs:List α}{lo hi:Option Int}:(zot xs lo hi).Sublist xs:=(List.drop_sublist _ _).trans (List.take_sublist _ _)
theorem zkO {x:List Nat}{ql qh:Option (Int×Tok)}:(slicePicked (sv x) ql qh none).filterMap ((sv x).cps[·]?)=zot x (ql.map (·.1)) (qh.map (·.1)):=by
 have h:_=zot x (ql.map (·.1)) (qh.map (·.1)):=zfb x (ql.map (λq=>q.1)) (qh.map (λq=>q.1))
 exact h
theorem zjf {x:List Nat}{ql qh:Option (Int×Tok)}:(slicePicked (sv x) ql qh none).length=(zot x (ql.map (·.1)) (qh.map (·.1))).length:=by
 have h3:slicePicked (sv x) ql qh none=sliceRange (sliceBounds (ql.map (·.1)) (qh.map (·.1)) none x.length).1 (sliceBounds (ql.map (·.1)) (qh.map (·.1)) none x.length).2.1 (sliceBounds (ql.map (·.1)) (qh.map (·.1)) none x.length).2.2:=rfl
 rw[h3,sliceBounds_plain]
 have e:zeu x.length=clipAt x.length:=funext λi=>zlU _ _
 unfold zot
 rw[e,sliceRange_one,List.length_map,List.length_range,List.length_drop,List.length_take,Nat.min_eq_left]
 cases qh with
 | none=>exact Nat.le_refl _
 | some q=>have:=clipAt_cast x.length q.1;show clipAt x.length q.1≤x.length;omega
theorem zpC {A:Around}{s:Shared}{x y:List Nat}{l h st:D}{vl vh vs:Value}{sl:Addr}{t:Tok} (hz:x.length≤2 ^ 20) (hq:zmo x l h st=some y) (g:Gd W s)
  (rl:RV s.heap W.X l vl) (rh:RV s.heap W.X h vh) (rs:RV s.heap W.X st vs) (ho:s.heap.get? sl=some {cls:=.type "slice",data:=.fields #[vl,vh,vs]}) (Q E:Value→Shared→Prop)
  (k:∀r s',Stp W s s'→RV s'.heap (nw s) (.str y) r→Q r s'):wpAny W.M A (getItem (.str (sv x) t) (.ref sl)) Q E s:=by
 have mk:∀ql qh qs,vl=partValue ql→vh=partValue qh→vs=partValue qs→((qs.map (·.1)).getD 1 == 0)=false→(slicePicked (sv x) ql qh qs).filterMap ((sv x).cps[·]?)=y→y.length≤x.length →
   ((qs.map (·.1)).getD 1=1→(slicePicked (sv x) ql qh qs).length=x.length→y=x)→wpAny W.M A (getItem (.str (sv x) t) (.ref sl)) Q E s:=by
  rintro ql qh qs rfl rfl rfl hn hpick hy hw
  refine wpAny_getItem_str_slice ⟨_,ho,rfl,rfl⟩ hn ?_
  unfold sliceMade
  split
  ·rename_i hc
   refine zj hc λc1 c2=>?_
   show Q (.str (sv x) t) s
   exact k _ _ g.refl (zN.mpr ⟨t,by rw[hw (eq_of_beq c1) ((eq_of_beq c2).trans (zu x))]⟩)
  ·refine⟨?_,k _ _ g.toks (zN.mpr ⟨_,by rw[hpick]⟩)⟩
   rw[hpick]
   show(sv y).length≤sizeLine
   rw[zu]
   exact Nat.le_trans (Nat.le_trans hy hz) (by decide)
 rcases zfa hq with ⟨lo,hi,rfl,rfl,rfl,rfl⟩ | ⟨rfl,rfl,rfl,rfl⟩
 ·refine zdx (zdb rl) λql q1_ el _=>?_;subst q1_
  refine zdx (zdb rh) λqh q1_ eh _=>?_;subst q1_
  exact mk ql qh none el eh rs rfl zkO zij.length_le λ_ hw=>zij.eq_of_length (zjf.symm.trans hw)
 ·refine zdx (zdb (p:=some (-1)) rs) λq hq1 es _=>?_
  refine mk none none q rl rh es (by rw[hq1];rfl) ?_ (by rw[List.length_reverse];exact Nat.le_refl _) λh1=>by rw[hq1]at h1;cases h1
  unfold slicePicked
  rw[hq1,zu]
  show(Builtin.Str.strSliceIndices none none (-1) x.length).filterMap (x.toArray[·]?)=_
  rw[picked_rev,zii]
theorem zmR {A:Around}{s:Shared}{xs ys:List D}{l h st:D}{vl vh vs:Value}{sl x:Addr}{us:List Value} (hz:xs.length≤2 ^ 20) (hf:zg xs=true) (hq:zmo xs l h st=some ys) (g:Gd W s)
  (l1:s.heap.PlainList x us.toArray) (q1:RVs s.heap W.X xs us)
  (rl:RV s.heap W.X l vl) (rh:RV s.heap W.X h vh) (rs:RV s.heap W.X st vs) (ho:s.heap.get? sl=some {cls:=.type "slice",data:=.fields #[vl,vh,vs]}) (Q E:Value→Shared→Prop)
  (k:∀r s',Stp W s s'→RV s'.heap (nw s) (.list ys) r→Q r s'):wpAny W.M A (getItem (.ref x) (.ref sl)) Q E s:=by
 have n1:=q1.len
 have mk:∀(pl ph ps:Option Int) (ws:List Value),IsPart vl pl→IsPart vh ph→IsPart vs ps→ps≠some 0→slicePick us.toArray pl ph ps=ws.toArray→RVs s.heap W.X ys ws→zg ys=true→wpAny W.M A (getItem (.ref x) (.ref sl)) Q E s:=λpl ph ps ws i1 i2 i3 hn e rw' f=>by
  refine wpAny_getItem_list_slice (zd l1) ⟨_,ho,rfl,rfl⟩ i1 i2 i3 hn (k _ _ g.push ?_) (by rw[List.size_toArray,n1];exact Nat.le_trans hz (show 2 ^ 20≤sizeLine by decide))
  rw[e]
  exact zy.mpr ⟨_,ws,rfl,zaB _ _,λq=>q (zap _),(rw'.flat (X':=nw s) f).to (λb o e _=>Heap.get?_push_of_some _ e) λ_ q=>.inl q⟩
 rcases zfa hq with ⟨lo,hi,rfl,rfl,rfl,rfl⟩ | ⟨rfl,rfl,rfl,rfl⟩
 ·refine zdx (zdb rl) λ_ _ _ i1=>?_
  refine zdx (zdb rh) λ_ _ _ i2=>?_
  refine mk lo hi none _ i1 i2 ((show vs = .none from rs)▸.none) nofun (zeG us _ _) ?_ (zjA _ (zjz _ hf))
  rw[n1]
  exact(q1.take _).drop _
 ·refine zdx (zdb (p:=some (-1)) rs) λ_ _ _ i3=>?_
  exact mk none none (some (-1)) us.reverse ((show vl = .none from rl)▸.none) ((show vh = .none from rh)▸.none) i3 (by decide) (zfB us.toArray) q1.rev (zcO hf)
theorem zsA {A:Around}{s:Shared}{a l h st d:D}{v vl vh vs:Value}{sl:Addr} (hp:zsB a l h st=some d) (g:Gd W s) (r:RV s.heap W.X a v)
  (rl:RV s.heap W.X l vl) (rh:RV s.heap W.X h vh) (rs:RV s.heap W.X st vs) (ho:s.heap.get? sl=some {cls:=.type "slice",data:=.fields #[vl,vh,vs]}) (Q E:Value→Shared→Prop)
  (k:∀r s',Stp W s s'→RV s'.heap (nw s) d r→Q r s'):(∃T id,s.TypeIs v T∧typeLookup (.type T) "__getitem__" = pure (some (.builtin id)))∧wpAny W.M A (getItem v (.ref sl)) Q E s:=by
 cases a with
 | str x =>
  refine zay hp λhz h1=>?_
  refine xEA (zhf h1) λy hq q2_=>?_;subst q2_
  refine xE (zN.mp r) λt q1_=>?_;subst q1_
  exact⟨⟨"str",_,typeIs_str _ _ _,PySem.F.slot_str_getitem.lookup⟩,zpC hz hq g rl rh rs ho Q E k⟩
 | list xs =>
  refine zay hp λhz h1=>?_
  refine xEA (zhf h1) λys hq q2_=>?_;subst q2_
  refine zar (zy.mp r) λx us q2_ l1 nx q1=>?_;subst q2_
  exact⟨⟨"list",_,(zd l1).typeIs,list_getitem_lookup⟩,zmR hz.1 hz.2 hq g l1 q1 rl rh rs ho Q E k⟩
 | _=>exact zl (show Option.none=some d from hp)
theorem zoH {e:Expr}{lo hi st:Option Expr}{p:Pos}{a l h t d:D} (h1:Ev W .al c ρ e a) (hl:EvP W c ρ lo l) (hh:EvP W c ρ hi h) (ht:EvP W c ρ st t) (h3:zsB a l h t=some d) :
  Ev W κ c ρ (.Subscript e (.Slice lo hi st p) pos) d:=λo s rl Q E k =>
 Subscript_ (h1 o s rl _ _ λv s1 x1 r1=>wpAny_Slice (hl.run (rl.mono x1) _ _ λvl s2 x2 r2=>hh.run (rl.mono (x1.trans x2)) _ _ λvh s3 x3 r3=>ht.run (rl.mono ((x1.trans x2).trans x3)) _ _ λvs s4 x4 r4=>by
  have x14:=(x2.trans x3).trans x4
  have x5:Stp W s4 {s4 with heap:=s4.heap.push {cls:=.type "slice",data:=.fields #[vl,vh,vs]}}:=x4.gd.push
  have all:=(x1.trans x14).trans x5
  have ra:=((r1.step x1.g x14 λ_ q=>q).step x14.g x5 λ_ q=>q)
  have rl':=((r2.step x2.g (x3.trans x4) λ_ q=>q).step x14.g x5 λ_ q=>q)
  have rh':=((r3.step x3.g x4 λ_ q=>q).step x14.g x5 λ_ q=>q)
  have rs':=r4.step x4.g x5 λ_ q=>q
  obtain⟨⟨T,id,hT,hlk⟩,hw⟩:=zsA (A:=c.A) h3 x5.gd ra rl' rh' rs' (Heap.get?_push_size _ rfl) Q E λr s6 x6 r6=>k _ _ (all.trans x6) ((r6.back rl.gd.1 all).fresh rl)
  refine xE (zcc (.Slice lo hi st p) v (.ref s4.heap.objs.size)) λops ho=>?_
  exact tail_any hT hlk hw ho))
end
end Mine.Internal
end

noncomputable section
set_option backward.match.sparseCases false
open PySem PySem.Calls PyProof.Rows PySem.SeqAt
namespace Mine.Internal
noncomputable def ztP (e:Expr):Bool:=match e with
 | .Starred ..=>true
 | _=>false
noncomputable def ze:List Expr→Bool
 | []=>true
 | e::r=>!ztP e && ze r
theorem zv {e:Expr}{r:List Expr} (h:ze (e::r)=true) (env:Env):starEach (e::r) env=(false,eval e env)::starEach r env∧ze r=true:=by
 cases e<;>first
  | exact⟨rfl,h⟩
  | exact(Bool.false_ne_true h).elim
theorem zcC:∀{es:List Expr} (h:ze es=true) (env:Env) (pos:Pos),(backTo pos (starEach es env)).any (·.1)=false∧(backTo pos (starEach es env)).all (λx=>!x.1)=true
 | [],_,_,_=>⟨rfl,rfl⟩
 | e::r,h,env,pos=>by
  refine xA (zv h env) λe1 h'=>?_
  rw[e1]
  refine xA (zcC h' env pos) λa b=>?_
  simp only[backTo,List.map_cons,List.any_cons,List.all_cons,Bool.false_or,Bool.not_false,Bool.true_and]at a b ⊢
  exact⟨a,b⟩
section
variable {W:Wd}{κ:Kd}{c:Cx}{ρ:zc}{pos:Pos}
structure FnAt (W:Wd) (x:Str) (fv:Value):Prop where
 at_:W.mg x=some fv∨(W.mg x=none∧W.mb x=some fv)
 dbg:(x == ("__debug__" : Str))=false
noncomputable def zba (W:Wd):Value→Prop
 | .builtin _=>True
 | .type _=>True
 | .ref a=>∃o fd,o.data = .func fd∧∀h,W.G h→h.get? a=some o
 | _=>False
noncomputable def zab (W:Wd) (k:Nat) (fv:Value) (ds:List D) (d:D):Prop :=
 ∀A s vs,Rm k A→Gd W s→W.tk0≤s.toks→RVs s.heap W.X ds vs→∀(Q E:Value→Shared→Prop),(∀r s',Stp W s s'→RV s'.heap (nw s) d r→Q r s')→wpAny W.M A (call fv vs) Q E s
noncomputable def zhh (W:Wd) (k:Nat) (x:Str) (ds:List D) (d:D):Prop:=∃fv,FnAt W x fv∧zba W fv∧zab W k fv ds d
theorem zaP {x:Str}{fv:Value} (h:FnAt W x fv) (hk:c.env.kindOf x=some .globalImplicit) {o:Nat→Option Addr}{s:Shared} (rl:Rel W c o ρ s) {p:Pos}{Q E:Value→Shared→Prop} (q:Q fv s) :
  wpAny W.M c.A (eval (.Name x p) c.env) Q E s:=by
 have hg:s.heap.Ns c.env.globals W.mg:=rl.ok.glob▸W.gl rl.step.g
 have hb:s.heap.Ns c.env.builtins W.mb:=rl.ok.blt▸W.bl rl.step.g
 refine Name_function_global rl.ok.kind hk ?_ h.dbg
 rcases h.at_ with e | ⟨e1,e2⟩
 ·exact loadGlobal_global hg e q
 ·exact loadGlobal_builtin hg e1 hb e2 q
theorem zaE {es:List Expr}{ds:List D} (hn:ze es=true) (h:EvL W .al c ρ es ds) {o:Nat→Option Addr}{s:Shared} (rl:Rel W c o ρ s) {f:Value}{Q:Args→Shared→Prop}{E:Value→Shared→Prop}
  (k:∀vs s',Stp W s s'→RVs s'.heap W.X ds vs→Q ⟨vs,[]⟩ s'):wpAny W.M c.A (evalArgs f true (backTo pos (starEach es c.env)) []) Q E s:=by
 have h':=h pos o s rl (λvs s'=>Q ⟨vs,[]⟩ s') E k
 cases es with
 | nil =>
  unfold evalArgs
  show wpAny W.M c.A (spliced (backTo pos (starEach [] c.env)) >>= _) _ _ s
  exact wpAny_bind (wpAny_mono h' (λvs s' hq=>wpAny_bind (wpAny_pure (wpAny_holding (wpAny_bind (wpAny_pure (wpAny_bind (wpAny_pure (wpAny_pure hq)))))))) λ_ _ x=>x)
 | cons e r =>
  refine xA (zv hn c.env) λe1 hr=>?_
  rw[e1]at h' ⊢
  exact evalArgs_plain h'
theorem zS {es:List Expr}{ds:List D}{fv:Value} (hc:zba W fv) (hn:ze es=true) (h:EvL W .al c ρ es ds) {o:Nat→Option Addr}{s:Shared} (rl:Rel W c o ρ s) {Q E:Value→Shared→Prop}
  (k:∀vs s',Stp W s s'→RVs s'.heap W.X ds vs→wpAny W.M c.A (call fv vs) Q E s'):wpAny W.M c.A (callWith pos fv [] (backTo pos (starEach es c.env)) []) Q E s:=by
 have hp:=(zcC hn c.env pos).1
 cases fv with
 | builtin id=>exact Calls.callWith_builtin hp (zaE hn h rl λvs s' x r=>k vs s' x r)
 | type T=>exact PyProof.Rows.callWith_type hp (zaE hn h rl λvs s' x r=>k vs s' x r)
 | ref a =>
  refine zav hc λob fd hd ha=>?_;clear hc
  exact Calls.callWith_function (o:=ob) (fd:=fd) (zaE hn h rl λvs s' x r=>⟨⟨ha _ x.g,hd⟩,k vs s' x r⟩)
 | _=>exact hc.elim
theorem zfQ {x:Str}{p:Pos}{es:List Expr}{ds:List D}{d:D} (hk:c.env.kindOf x=some .globalImplicit) (hn:ze es=true) (h:EvL W .al c ρ es ds) (hf:zhh W c.k x ds d) :
  Ev W κ c ρ (.Call (.Name x p) es [] pos) d:=λo s rl Q E k=>by
 refine zdx hf λfv fa fc ok=>?_;clear hf
 exact wpAny_Call_NameR (zaP fa hk rl (zS fc hn h rl λvs s1 x1 r1=>ok _ _ _ rl.ok.room x1.gd (Nat.le_trans rl.ok.toks (Nat.le_trans rl.step.toks x1.toks)) r1 Q E λr s2 x2 r2=>k _ _ (x1.trans x2) ((r2.back rl.gd.1 x1).fresh rl)))
noncomputable def zyq (W:Wd) (x:Str) (d:D):Prop:=∃fv,FnAt W x fv∧zbp d=true∧∀h X,W.G h→RV h X d fv
theorem zqR {x:Str}{p:Pos}{d:D} (hk:c.env.kindOf x=some .globalImplicit) (hf:zyq W x d):Ev W κ c ρ (.Name x p) d:=λo s rl Q E k=>by
 refine zdx hf λfv fa fl ok=>?_;clear hf
 exact zaP fa hk rl (k _ _ rl.gd.refl ((ok _ (nw s) rl.gd.1).flat fl))
noncomputable def zwD (e:Expr):Bool:=match e with
 | .Name ..=>false
 | _=>true
noncomputable def zci (e:Expr):Bool:=match e with
 | .Call g _ _ _=>zwD g
 | _=>true
theorem zrg {o:Expr} (h:zci o=true) (name:Str) (env:Env) (w:Sem Value):attributeBase o name env w=w:=by
 cases o with
 | Call g es ks p=>cases g<;>first | exact(Bool.false_ne_true h).elim | rfl
 | _=>rfl
theorem zcJ {oe:Expr}{name:Str}{apos:Pos}{es:List Expr}{T id:String} (hb:zci oe=true) (hn:ze es=true) (hl:es.length < 30) (hp:(apos.endLine == pos.line)=true)
  (m:MtOk name T id) {s:Shared} (Q E:Value→Shared→Prop)
  (h:wpAny W.M c.A (eval oe c.env) (λv s1=>s1.TypeIs v T∧(∀b,v = .ref b→∃ob,s1.heap.get? b=some ob∧ob.dict=none) ∧
   wpAny W.M c.A (evalArgs (.builtin id) true (backTo pos (starEach es c.env)) []) (λa s2=>wpAny W.M c.A (call (.builtin id) ([v]++a.pos) a.kw) Q E s2) E s1) E s) :
  wpAny W.M c.A (eval (.Call (.Attribute oe name apos) es [] pos) c.env) Q E s:=by
 refine xA (zcC hn c.env pos) λn1 n2=>?_
 refine wpAny_Call_method_lateS (zrg hb _ _ _) ?_ hp (wpAny_mono h (λv s1 h1=>?_) λ_ _ x=>x)
 ·rw[n2]
  exact decide_eq_true hl
 ·exact⟨T,id,m.pa,m.slot,m.ty,h1.1,h1.2.1,Calls.callWith_builtin n1 h1.2.2⟩
theorem zlI {oe:Expr}{m:Mth}{name:Str}{apos:Pos}{es:List Expr}{a d:D}{ds:List D} (hm:name=zld m) (hb:zci oe=true) (hn:ze es=true) (hl:es.length < 30) (hp:(apos.endLine == pos.line)=true)
  (h1:Ev W .al c ρ oe a) (h2:EvL W .al c ρ es ds) (h3:zeK m a ds=some d):Ev W κ c ρ (.Call (.Attribute oe name apos) es [] pos) d:=λo s rl Q E k=>by
 subst hm
 refine xA (zsh (W:=W) h3) λt1 t2=>?_
 exact zcJ hb hn hl hp (zwF m a) Q E (h1 o s rl _ _ λv s1 x1 r1=>⟨(t1 s1 v r1).1,(t1 s1 v r1).2,zaE hn h2 (rl.mono x1) λvs s2 x2 r2 =>
  t2 _ _ _ _ (rm0 rl) x2.gd (r1.step x1.g x2 λ_ q=>q) r2 Q E λr s3 x3 r3=>k _ _ ((x1.trans x2).trans x3) ((r3.back rl.gd.1 (x1.trans x2)).fresh rl)⟩)
noncomputable def zvb (W:Wd) (c:Cx) (ρ:zc) (e:Expr):RA→Prop
 | .lit x=>∃y k p,e = .Constant (.str y) k p∧y=sv x
 | .tk x t=>Ev W .al c ρ e (.tk x t)
theorem zkK {e1 e2:Expr}{a b:RA} (ha:zvb W c ρ e1 a) (hb:zvb W c ρ e2 b) (hn:ze [e1,e2]=true) {x:List Nat}{d:D}{K:Option D} (hK:∀k:Int,K=some (.int k)→k≤(W.tk0:Int))
  (hd:zht K x a b=some d) {o:Nat→Option Addr}{s:Shared} (rl:Rel W c o ρ s) (ht0:0 < s.toks) {f:Value}{Q:Args→Shared→Prop}{E:Value→Shared→Prop}
  (k:∀y z u v s',Stp W s s'→u≠0→v≠0→u≠v→zdY x y z=some d→Q ⟨[.str (sv y) u,.str (sv z) v],[]⟩ s') :
  wpAny W.M c.A (evalArgs f true (backTo pos (starEach [e1,e2] c.env)) []) Q E s:=by
 refine xA (zv hn c.env) λs1 hn2=>?_
 refine xA (zv hn2 c.env) λs2 _=>?_
 rw[s1,s2]
 have tk0:W.tk0≤s.toks:=Nat.le_trans rl.ok.toks rl.step.toks
 cases a with
 | lit y =>
  cases b with
  | tk=>exact zl (show Option.none=some d from hd)
  | lit z =>
   refine zaA ha λy' k1 p1 q3_ q4_=>?_;clear ha;subst q3_;subst q4_
   refine zaA hb λz' k2 p2 q3_ q4_=>?_;clear hb;subst q3_;subst q4_
   refine evalArgs_plain (Calls.spliced_cons (wpAny_Constant_str (k:=k1) (pos:=p1) (Calls.spliced_cons (wpAny_Constant_str (k:=k2) (pos:=p2) (Calls.spliced_nil ?_)))))
   exact k y z s.toks (s.toks+1) {s with toks:=s.toks+1+1} rl.gd.toks (Nat.ne_of_gt ht0) (Nat.succ_ne_zero _) (Nat.ne_of_lt (Nat.lt_succ_self _)) hd
 | tk y t =>
  cases b with
  | lit z =>
   refine zf hd λdk hk1 h1=>?_
   refine xEA (zae h1) λkk q1_ h2=>?_;subst q1_
   refine zay h2 λhc h3=>?_
   have hk:=hK kk hk1
   refine zaA hb λz' k2 p2 q3_ q4_=>?_;clear hb;subst q3_;subst q4_
   refine evalArgs_plain (Calls.spliced_cons (ha o s rl _ _ λv s3 x3 r3=>Calls.spliced_cons (wpAny_Constant_str (k:=k2) (pos:=p2) (Calls.spliced_nil ?_))))
   simp only[zyb]at r3;subst r3
   have h4:=x3.toks
   have q:t < s3.toks:=by omega
   exact k y z t s3.toks {s3 with toks:=s3.toks+1} (x3.trans x3.gd.toks) (Nat.ne_of_gt hc.1) (Nat.ne_of_gt (Nat.lt_of_le_of_lt (Nat.zero_le _) q)) (Nat.ne_of_lt q) h3
  | tk z u =>
   refine zay hd λhc h3=>?_
   refine evalArgs_plain (Calls.spliced_cons (ha o s rl _ _ λv s3 x3 r3=>Calls.spliced_cons (hb o s3 (rl.mono x3) _ _ λv' s4 x4 r4=>Calls.spliced_nil ?_)))
   cases (show v=_ from r3);cases (show v'=_ from r4)
   exact k y z _ _ _ (x3.trans x4) (Nat.ne_of_gt hc.1) (Nat.ne_of_gt hc.2.1) hc.2.2 h3
theorem zjn:MtOk "replace" "str" "str.replace":=⟨PySem.F.plainAttrs_str,PySem.F.slot_str_replace,PySem.F.type_str_replace⟩
theorem zqP {oe e1 e2:Expr}{name:Str}{apos:Pos}{a b:RA}{x:List Nat}{d:D}{K:Option D} (hK:∀k:Int,K=some (.int k)→k≤(W.tk0:Int)) (hpos:0 < c.base.toks) (hnb:∀h,W.G h→NoneBooked h)
  (hm:name=("replace" : Str)) (hb:zci oe=true) (hn:ze [e1,e2]=true) (hp:(apos.endLine == pos.line)=true)
  (h1:Ev W .al c ρ oe (.str x)) (ha:zvb W c ρ e1 a) (h2:zvb W c ρ e2 b) (h3:zht K x a b=some d):Ev W κ c ρ (.Call (.Attribute oe name apos) [e1,e2] [] pos) d:=λo s rl Q E k=>by
 subst hm
 refine zcJ hb hn (show 2 < 30 by decide) hp zjn Q E (h1 o s rl _ _ λv s1 x1 r1=>?_)
 refine zV r1 λt=>?_
 have ht:0 < s1.toks:=Nat.lt_of_lt_of_le hpos (Nat.le_trans rl.step.toks x1.toks)
 refine⟨typeIs_str _ _ _,(λ_ e=>nomatch e),zkK ha h2 hn hK h3 (rl.mono x1) ht λy z u v s2 x2 hu hv huv hr=>?_⟩
 refine zay hr λhz hr=>?_
 refine wpAny_with_toks (n:=s2.toks) (Nat.le_refl _) (SC.replaceA hu hv huv (by simp only[zu];exact Nat.le_trans hz (by decide)) (λt' tk ht=>?_) (hnb _ x2.g))
 cases Option.some.inj hr
 exact k _ _ ((x1.trans x2).trans (x2.gd.toks ht)) (zN.mpr ⟨t',by simp⟩)
theorem zoJ {xl xr:Str}{pl pr pos':Pos}{es:List Expr}{ds xs:List D} (hk:c.env.kindOf xl=some .globalImplicit) (hk':c.env.kindOf xr=some .globalImplicit) (fl:FnAt W xl (.type "list")) (fr:FnAt W xr (.type "range"))
  (hn:ze es=true) (h:EvL W .al c ρ es ds) (hs:∃a b,ds=[.int a,.int b]∧-2 ^ 20≤a∧a≤2 ^ 20∧-2 ^ 20≤b∧b≤2 ^ 20∧xs=zX a b) :
  Ev W κ c ρ (.Call (.Name xl pl) [.Call (.Name xr pr) es [] pos'] [] pos) (.list xs):=λo s rl Q E k=>by
 refine zbT hs λa b q2_ a1 a2 b1 b2 q7_=>?_;clear hs;subst q2_;subst q7_
 refine wpAny_Call_NameR (zaP fl hk rl ?_)
 refine PyProof.Rows.callWith_type rfl (evalArgs_plain (Calls.spliced_cons ?_))
 refine wpAny_Call_NameR (zaP fr hk' rl ?_)
 refine zS (fv:=.type "range") trivial hn h rl λvs s1 x1 r1=>?_
 refine zmV r1 λv u q1 q2=>?_
 refine zW q1 λt=>?_
 refine zW q2 λt'=>?_
 refine call_range_2 (Calls.spliced_nil ?_)
 have x2:Stp W s1 {s1 with heap:=s1.heap.push {cls:=.type "range",data:=.fields #[.int a t,.int b t',.int 1 s1.toks]},toks:=s1.toks+1}:=x1.gd.keeps λb o e=>Heap.get?_push_of_some _ e
 exact znY (rm0 rl) x2.gd (IsRange.new ..) a1 b2 Q E a2 b1 λv s3 x3 r3=>k _ _ ((x1.trans x2).trans x3) ((r3.back rl.gd.1 (x1.trans x2)).fresh rl)
end
end Mine.Internal
end

noncomputable section
open PySem PySem.Calls PyProof.Rows PySem.SeqAt
namespace Mine.Internal
noncomputable def zbS (o:Obj):Prop:=o.cls≠.type "list"∧o.cls≠.type "tuple"∧o.cls≠.type "code"
noncomputable def zau (o:Obj):Prop:=zbS o∨∃es n,o.data = .dict es n
theorem zau.seq {o:Obj} (h:zau o) (hc:o.cls = .type "list"∨o.cls = .type "tuple") (hd:∃xs n,o.data = .seq xs n):False:=by
 rcases h with h | ⟨es,n,h⟩
 ·rcases hc with q | q
  ·exact h.1 q
  ·exact h.2.1 q
 ·refine xEE hd λxs m hd=>?_;rw[hd]at h;cases h
theorem zau.code {o:Obj} (h:zau o) (hc:o.cls = .type "code"∧∃vs,o.data = .fields vs):False:=by
 rcases h with h | ⟨es,n,h⟩
 ·exact h.2.2 hc.1
 ·refine xAE hc λ_ vs hd=>?_;clear hc;rw[hd]at h;cases h
structure Nx (W:Wd) (wr:Addr→Prop) (wg:Nat→Prop) (s s':Shared):Prop where
 evo:∀b o,s.heap.get? b=some o→¬W.X b→¬wr b→s'.heap.get? b=some o
 g:W.G s'.heap
 os:s'.os=s.os
 gens:∀(i:Nat) g,¬wg i→s.gens[i]? = some g→s'.gens[i]? = some g
 bare:AllBare s'.gens
 toks:s.toks≤s'.toks
 cls:∀b o,wr b→s.heap.get? b=some o→zau o
 wx:∀b,wr b→¬W.X b
noncomputable def zcL:Expr→Bool
 | .Name ..=>true
 | _=>false
structure Itr (W:Wd) (A:Around) (it:Value) (fp wr:Addr→Prop) (wg:Nat→Prop) (pr:Bool) (St:List D→Shared→Prop):Prop where
 sub:∀b,wr b→fp b
 alive:∀{ds s b},St ds s→fp b→s.heap.get? b≠none
 frame:∀{ds s s'},St ds s→(∀b o,fp b→s.heap.get? b=some o→s'.heap.get? b=some o)→(∀(i:Nat) g,wg i→s.gens[i]? = some g→s'.gens[i]? = some g)→St ds s'
 item:∀{d ds s}{Q:Option Value→Shared→Prop}{E:Value→Shared→Prop},St (d::ds) s→Gd W s→(∀v s',St ds s'→RV s'.heap W.X d v→Nx W wr wg s s'→Q (some v) s')→wpAny W.M A (pyNext it) Q E s
 done:∀{s}{Q:Option Value→Shared→Prop}{E:Value→Shared→Prop},St [] s→Gd W s→(∀s',Nx W wr wg s s'→Q none s')→wpAny W.M A (pyNext it) Q E s
 self:∀{ds s}{Q:Value→Shared→Prop}{E:Value→Shared→Prop},St ds s→Q it s→wpAny W.M A (pyIter it) Q E s
 letgo:∀{ds s target v}{Q:Unit→Shared→Prop}{E:Value→Shared→Prop},(pr=true∨zcL target=true)→St ds s→Q () s→wpAny W.M A (letOwnedTupleGo target it v) Q E s
theorem zjs {target:Expr}{it v:Value}{M:Model}{A:Around}{Q:Unit→Shared→Prop}{E:Value→Shared→Prop}{s:Shared} (h:zcL target=true) (q:Q () s):wpAny M A (letOwnedTupleGo target it v) Q E s:=by
 cases target<;>first | exact(Bool.false_ne_true h).elim | skip
 exact wpAny_pure q
section
variable {W:Wd}
theorem RV.flat_to {h h':Heap}{X X':Addr→Prop}{d:D}{v:Value} (f:zbp d=true) (r:RV h X d v) (k:∀b o,h.get? b=some o→o.cls = .type "tuple"∧(∃xs n,o.data = .seq xs n)→h'.get? b=some o):RV h' X' d v:=by
 have r1:RV h (λ_=>True) d v:=r.flat f
 have r2:RV h' (λ_=>True) d v:=r1.to (λb o e hc=>by rcases hc with hc | hc;exact absurd trivial hc.2.1;exact k b o e hc) λa q=>.inl q
 exact r2.flat f
theorem RVs.flat_to {h h':Heap}{X X':Addr→Prop}{d:List D}{v:List Value} (f:zg d=true) (r:RVs h X d v) (k:∀b o,h.get? b=some o→o.cls = .type "tuple"∧(∃xs n,o.data = .seq xs n)→h'.get? b=some o):RVs h' X' d v:=by
 have r1:RVs h (λ_=>True) d v:=r.flat f
 have r2:RVs h' (λ_=>True) d v:=r1.to (λb o e hc=>by rcases hc with hc | hc;exact absurd trivial hc.2.1;exact k b o e hc) λa q=>.inl q
 exact r2.flat f
noncomputable def zrR (h:Heap) (b:Addr):Prop:=∃o,h.get? b=some o∧(o.cls = .type "tuple"∧∃xs n,o.data = .seq xs n)
theorem Itr.of_walks {A:Around}{I:Addr}{fp wr:List Addr}{n:Nat}{P:Nat→Value→Prop}{St:Nat→Heap→Prop} (K:Walks W.prog W.w A I fp wr n P St) {items:List D}{s₀:Shared} (hn:items.length=n)
  (hf:zg items=true) (hw:wr=[I]) (hX:¬W.Sy I) (pr:Bool)
  (hst:∀i h,St i h→(∃o,h.get? I=some o∧zbS o)∧∀b∈fp,h.get? b≠none)
  (hi:∀i v,i < n→P i v→∃d,items[i]? = some d∧RV s₀.heap W.X d v) (hg:pr=true→∀i s target v (Q:Unit→Shared→Prop) (E:Value→Shared→Prop),St i s.heap→Q () s→wpAny W.M A (letOwnedTupleGo target (.ref I) v) Q E s) :
  Itr W A (.ref I) (λb=>b∈fp∨zrR s₀.heap b) (λb=>b=I) (λ_=>False) pr
   (λds s=>∃i,items.drop i=ds∧i≤n∧St i s.heap∧∀b o,s₀.heap.get? b=some o→o.cls = .type "tuple"∧(∃xs n,o.data = .seq xs n)→s.heap.get? b=some o) where
 sub:=λb e=>.inl (K.sub b (by rw[hw];exact List.mem_singleton.mpr e))
 alive:=by
  rintro ds s b ⟨i,_,_,h,ht⟩ (hb | ⟨o,ho,hc⟩)
  ·exact(hst i _ h).2 b hb
  ·rw[ht b o ho hc];exact nofun
 frame:=by
  rintro ds s s' ⟨i,e,hi,h,ht⟩ hk _
  exact⟨i,e,hi,K.frame i _ _ h λb hb o q=>hk b o (.inl hb) q,λb o q c=>hk b o (.inr ⟨o,q,c⟩) (ht b o q c)⟩
 item:=by
  rintro d ds s Q E ⟨i,e,hi',h,ht⟩ g k
  have hlt:i < n:=by
   rcases Nat.lt_or_ge i n with q | q
   ·exact q
   ·rw[List.drop_eq_nil_of_le (Nat.le_trans (Nat.le_of_eq hn) q)]at e;cases e
  refine xEA ((hst i _ h).1) λoI hoI hNs=>?_
  have he:items[i]? = some d:=by
   have:=congrArg (·[0]?) e
   simpa using this
  have hdrop:items.drop (i+1)=ds:=by
   have:=congrArg (·.drop 1) e
   simpa [Nat.add_comm] using this
  refine wpAny_with_toks (n:=s.toks) (Nat.le_refl _) (K.item i s _ _ hlt h λv h' tk hP hst' hk htk=>?_)
  have keep:∀b o,s.heap.get? b=some o→¬b=I→h'.get? b=some o:=λb o q hb=>hk b o (by rw[hw];simpa using hb) q
  have ht':∀b o,s₀.heap.get? b=some o→o.cls = .type "tuple"∧(∃xs n,o.data = .seq xs n)→h'.get? b=some o:=λb o q c=>keep b o (ht b o q c) (by
   rintro rfl
   rw[ht _ o q c]at hoI
   cases hoI
   exact hNs.2.1 c.1)
  refine xEA (hi i v hlt hP) λd' hd' hr=>?_
  rw[he]at hd';cases hd'
  have fl:zbp d=true:=by
   have:∀(l:List D) (i:Nat),zg l=true→l[i]? = some d→zbp d=true:=by
    intro l
    induction l with
    | nil=>intro i _ q;cases q
    | cons x l ih =>
     intro i f q
     simp only[zde,Bool.and_eq_true]at f
     cases i with
     | zero=>cases q;exact f.1
     | succ i=>exact ih i f.2 (by simpa using q)
   exact this items i hf he
  have keepX:∀b o,s.heap.get? b=some o→W.Sy b∨(o.cls = .type "code"∧∃vs,o.data = .fields vs)→h'.get? b=some o:=λb o q hs=>keep b o q (by
   rintro rfl
   rcases hs with hs | hs
   ·exact hX hs
   ·rw[q]at hoI;cases hoI;exact hNs.2.2 hs.1)
  refine k v _ ⟨i+1,hdrop,hlt,hst',ht'⟩ (hr.flat_to fl ht') ⟨λb o q _ hb=>keep b o q hb,?_,rfl,λ_ _ _ q=>q,g.2,htk,?_,?_⟩
  ·exact W.keep g.1 keepX
  ·rintro b o rfl q;rw[q]at hoI;cases hoI;exact .inl hNs
  ·rintro b rfl q;exact hX (W.xsy _ q)
 done:=by
  rintro s Q E ⟨i,e,hi',h,ht⟩ g k
  refine xEA ((hst i _ h).1) λoI hoI hNs=>?_
  have hin:i=n:=by
   have:=congrArg List.length e
   simp only[List.length_drop,List.length_nil]at this
   lia
  subst hin
  refine wpAny_with_toks (n:=s.toks) (Nat.le_refl _) (K.done s _ _ h λh' tk hk htk=>?_)
  have keep:∀b o,s.heap.get? b=some o→¬b=I→h'.get? b=some o:=λb o q hb=>hk b o (by rw[hw];simpa using hb) q
  refine k _ ⟨λb o q _ hb=>keep b o q hb,W.keep g.1 λb o q hs=>keep b o q ?_,rfl,λ_ _ _ q=>q,g.2,htk,?_,?_⟩
  ·rintro rfl
   rcases hs with hs | hs
   ·exact hX hs
   ·rw[q]at hoI;cases hoI;exact hNs.2.2 hs.1
  ·rintro b o rfl q;rw[q]at hoI;cases hoI;exact .inl hNs
  ·rintro b rfl q;exact hX (W.xsy _ q)
 self:=by
  rintro ds s Q E ⟨i,e,hi',h,ht⟩ q
  exact K.self i s Q E h q
 letgo:=by
  rintro ds s target v Q E (hp | hp) ⟨i,e,hi',h,ht⟩ q
  ·exact hg hp i s target v Q E h q
  ·exact zjs hp q
noncomputable def zrz (s₀ s:Shared) (b:Addr):Prop:=s₀.heap.get? b=none∧∀ob,s.heap.get? b=some ob→∃vs,ob.data = .fields vs
structure ItrD (W:Wd) (A:Around) (it:Value) (s₀:Shared) (wg:Nat→Prop) (pr:Bool) (St:(Addr→Prop)→(Addr→Prop)→List D→Shared→Prop):Prop where
 sub:∀{fp wr ds s},St fp wr ds s→∀b,wr b→fp b
 alive:∀{fp wr ds s b},St fp wr ds s→fp b→s.heap.get? b≠none
 frame:∀{fp wr ds s s'},St fp wr ds s→(∀b o,fp b→s.heap.get? b=some o→s'.heap.get? b=some o)→(∀(i:Nat) g,wg i→s.gens[i]? = some g→s'.gens[i]? = some g)→St fp wr ds s'
 item:∀{fp wr d ds s}{Q:Option Value→Shared→Prop}{E:Value→Shared→Prop},St fp wr (d::ds) s→Gd W s→W.tk0≤s.toks→zca s₀ s →
  (∀v s' fp' wr' wn,St fp' wr' ds s'→(∀b,fp' b→fp b∨zrz s₀ s b)→(∀b,wr' b→wr b∨zrz s₀ s b)→(∀b,wn b→wr b∨zrz s₀ s b)→RV s'.heap W.X d v→Nx W wn wg s s'→Q (some v) s')→wpAny W.M A (pyNext it) Q E s
 done:∀{fp wr s}{Q:Option Value→Shared→Prop}{E:Value→Shared→Prop},St fp wr [] s→Gd W s→W.tk0≤s.toks→zca s₀ s→(∀s' wr',(∀b,wr' b→wr b∨zrz s₀ s b)→Nx W wr' wg s s'→Q none s')→wpAny W.M A (pyNext it) Q E s
 self:∀{fp wr ds s}{Q:Value→Shared→Prop}{E:Value→Shared→Prop},St fp wr ds s→Q it s→wpAny W.M A (pyIter it) Q E s
 letgo:∀{fp wr ds s target v}{Q:Unit→Shared→Prop}{E:Value→Shared→Prop},(pr=true∨zcL target=true)→St fp wr ds s→Q () s→wpAny W.M A (letOwnedTupleGo target it v) Q E s
theorem Itr.toD {A:Around}{it:Value}{fp wr:Addr→Prop}{wg:Nat→Prop}{pr:Bool}{St:List D→Shared→Prop}{s₀:Shared} (I:Itr W A it fp wr wg pr St):ItrD W A it s₀ wg pr (λfp' wr' ds s=>fp'=fp∧wr'=wr∧St ds s) where
 sub:=by rintro _ _ ds s ⟨rfl,rfl,h⟩;exact I.sub
 alive:=by rintro _ _ ds s b ⟨rfl,rfl,h⟩ hb;exact I.alive h hb
 frame:=by rintro _ _ ds s s' ⟨rfl,rfl,h⟩ h1 h2;exact⟨rfl,rfl,I.frame h h1 h2⟩
 item:=by
  rintro _ _ d ds s Q E ⟨rfl,rfl,h⟩ g _ _ k
  exact I.item h g λv s' st r n=>k v s' _ _ _ ⟨rfl,rfl,st⟩ (λ_ q=>.inl q) (λ_ q=>.inl q) (λ_ q=>.inl q) r n
 done:=by rintro _ _ s Q E ⟨rfl,rfl,h⟩ g _ _ k;exact I.done h g λs' n=>k s' _ (λ_ q=>.inl q) n
 self:=by rintro _ _ ds s Q E ⟨rfl,rfl,h⟩ q;exact I.self h q
 letgo:=by rintro _ _ ds s t v Q E hp ⟨rfl,rfl,h⟩ q;exact I.letgo hp h q
inductive SrcSX (W:Wd) (own:Bool) (c:Cx) (o:Nat→Option Addr) (s:Shared) (items:List D) (pr:Bool) (it:Value) (s':Shared):Prop
 | mk (fp wr:Addr→Prop) (wg:Nat→Prop) (St:List D→Shared→Prop) (I:Itr W c.A it fp wr wg pr St) (hst:St items s') (hw:∀b,wr b→s.heap.get? b=none) (hg:∀i,wg i→s.gens[i]? = none)
  (ha:∀b,fp b→¬W.X b∧b≠c.env.locals∧(∀x k,c.env.cells.lookup x=some k→b≠k)∧(own=true→∀i,o i≠some b)):SrcSX W own c o s items pr it s'
structure SrcS (W:Wd) (own:Bool) (c:Cx) (o:Nat→Option Addr) (s:Shared) (items:List D) (pr:Bool) (it:Value) (s':Shared):Prop where
 ex:SrcSX W own c o s items pr it s'
 stp:Stp W s s'
inductive SrcX (W:Wd) (own:Bool) (c:Cx) (o:Nat→Option Addr) (s:Shared) (items:List D) (pr:Bool) (it:Value) (s':Shared):Prop
 | mk (fp wr:Addr→Prop) (wg:Nat→Prop) (St:(Addr→Prop)→(Addr→Prop)→List D→Shared→Prop) (I:ItrD W c.A it s wg pr St) (hst:St fp wr items s') (hw:∀b,wr b→s.heap.get? b=none) (hg:∀i,wg i→s.gens[i]? = none)
  (ha:∀b,fp b→¬W.X b∧b≠c.env.locals∧(∀x k,c.env.cells.lookup x=some k→b≠k)∧(own=true→∀i,o i≠some b)):SrcX W own c o s items pr it s'
structure Src (W:Wd) (own:Bool) (c:Cx) (o:Nat→Option Addr) (s:Shared) (items:List D) (pr:Bool) (it:Value) (s':Shared):Prop where
 ex:SrcX W own c o s items pr it s'
 stp:Stp W s s'
theorem SrcS.to {own:Bool}{c:Cx}{o:Nat→Option Addr}{s s':Shared}{items:List D}{pr:Bool}{it:Value} (x:SrcS W own c o s items pr it s'):Src W own c o s items pr it s':=by
 obtain⟨⟨fp,wr,wg,St,I,h1,h2,h3,h4⟩,h5⟩:=x
 exact⟨⟨fp,wr,wg,_,I.toD,⟨rfl,rfl,h1⟩,h2,h3,h4⟩,h5⟩
noncomputable def EvS (W:Wd) (own:Bool) (c:Cx) (ρ:zc) (e:Expr) (pr:Bool) (items:List D):Prop :=
 ∀o s,Rel W c o ρ s→∀(Q:Value→Shared→Prop) (E:Value→Shared→Prop),(∀it s',Src W own c o s items pr it s'→Q it s')→wpAny W.M c.A (eval e c.env) (λx s1=>wpAny W.M c.A (pyIter x) Q E s1) E s
noncomputable def skd:Bool→Kd
 | true=>.ow
 | false=>.al
section
variable {c:Cx}{o:Nat→Option Addr}{ρ:zc}{s s' s1 s₀:Shared}
theorem zR (r:Rel W c o ρ s) {b:Addr}{ob:Obj} (h:s.heap.get? b=some ob) (hd:∀es n,ob.data≠.dict es n):b≠c.env.locals:=by
 rintro rfl
 refine zbq r.loc λm o' es ep ho hd' _=>?_
 rw[h]at ho;cases ho
 exact hd _ _ hd'
theorem zaF (r:Rel W c o ρ s) {b:Addr}{ob:Obj} (h:s.heap.get? b=some ob) (hd:∀v,ob.data≠.cell v):∀x k,c.env.cells.lookup x=some k→b≠k:=by
 rintro x k hx rfl
 refine zav (r.cel x b hx) λv o' ho hd'=>?_
 rw[h]at ho;cases ho
 exact hd _ hd'
theorem zbn (r:Rel W c o ρ s) {b:Addr} (h:s.heap.get? b=none):¬W.X b∧b≠c.env.locals∧(∀x k,c.env.cells.lookup x=some k→b≠k)∧∀i,o i≠some b:=by
 refine⟨λq=>zdO r.step.g q h,?_,?_,λi e=>zcD r e h⟩
 ·rintro rfl
  refine zaI r.loc λm o' es ep ho _=>?_
  rw[h]at ho;cases ho
 ·rintro x k hx rfl
  refine zav (r.cel x b hx) λv o' ho _=>?_
  rw[h]at ho;cases ho
theorem zbR (r:Rel W c o ρ s) {b:Addr} (h:zrR s.heap b):¬W.X b∧b≠c.env.locals∧(∀x k,c.env.cells.lookup x=some k→b≠k)∧∀i,o i≠some b:=by
 refine zrG h λob ho hc xs n hd=>?_;clear h
 refine⟨λq=>(W.xcls r.step.g q ho).1 hc,zR r ho (λes n e=>by rw[hd]at e;cases e),zaF r ho (λv e=>by rw[hd]at e;cases e),λi e=>?_⟩
 refine zmn (r.own i b e) λ_ vs m e2=>?_
 rw[ho]at e2
 have q:Value.type "tuple" = Value.type "list":=hc.symm.trans (congrArg Obj.cls (Option.some.inj e2))
 exact absurd q (by decide)
theorem zfs (r:Rel W c o ρ s) {b:Addr}{vs:Array Value} (h:s.heap.PlainList b vs) (hx:¬W.X b):b≠c.env.locals∧(∀x k,c.env.cells.lookup x=some k→b≠k):=by
 refine xE h λn e=>?_;clear h
 exact⟨zR r e (λes n e=>by cases e),zaF r e (λv e=>by cases e)⟩
theorem zkW (g:W.G s.heap) {b:Addr} (h:s.heap.get? b=none):¬W.Sy b:=λq=>W.sy g q h
theorem zam (g0:W.G s₀.heap) (r:Rel W c o ρ s) {b:Addr} (h:zrz s₀ s b):¬W.X b∧b≠c.env.locals∧(∀x k,c.env.cells.lookup x=some k→b≠k)∧∀i,o i≠some b:=by
 cases e:s.heap.get? b with
 | none=>exact zbn r e
 | some ob =>
  refine xE (h.2 ob e) λvs hd=>?_
  refine⟨λq=>W.sy g0 (W.xsy _ q) h.1,zR r e (λes n q=>by rw[hd]at q;cases q),zaF r e (λv q=>by rw[hd]at q;cases q),λi q=>?_⟩
  refine zmn (r.own i b q) λ_ vs' n e2=>?_
  rw[e]at e2;cases e2;cases hd
end
theorem znF {own:Bool}{c:Cx}{ρ:zc}{e:Expr}{xs:List D} (h:Ev W (skd own) c ρ e (.list xs)) (hf:zg xs=true):EvS W own c ρ e true xs:=λo s rl Q E k =>
 h o s rl _ _ λv s1 x1 r1=>by
  refine zbt r1 λa vs l1 nx q1=>?_
  have rl1:=rl.mono x1
  have hlt:a < s1.heap.objs.size:=by refine xE l1 λn e=>?_;clear l1;exact Heap.lt_size e
  have nX:¬W.X a:=λq=>nx (zcK a q)
  refine wpAny_pyIter_list (zd l1) ?_
  have x2:Stp W s1 {s1 with heap:=s1.heap.push {cls:=.type "list_iterator",data:=.fields #[.ref a,.int 0 0]}}:=x1.gd.push
  have nI:s1.heap.get? s1.heap.objs.size=none:=zap _
  have nI0:s.heap.get? s1.heap.objs.size=none:=by
   cases hq:s.heap.get? s1.heap.objs.size with
   | none=>rfl
   | some ob=>exact absurd (x1.alive rl.gd.1 (a:=s1.heap.objs.size) (by rw[hq];exact nofun)) (λq=>q nI)
  refine k _ _ (SrcS.to ⟨⟨_,_,_,_,Itr.of_walks (Walks.list (A:=c.A) rl.ok.room.1 s1.heap.objs.size a (Nat.ne_of_lt hlt) vs.toArray) (items:=xs) (s₀:=s1) (by have:=q1.len;simp[this]) hf rfl (zkW x1.g nI) true ?_ ?_ ?_,?_,?_,?_,?_⟩,x1.trans x2⟩)
  ·rintro i h ⟨h1,h2⟩
   refine zdx (id h1) λob ho hc _=>?_
   refine⟨⟨ob,ho,?_⟩,λb hb=>?_⟩
   ·rw[zbS,hc];decide
   ·rcases List.mem_cons.mp hb with rfl | hb
    ·rw[ho];exact nofun
    ·rw[List.mem_singleton.mp hb];refine xEA h2 λol hol _=>?_;clear h2;rw[hol];exact nofun
  ·intro i v _ hv
   have hv':vs[i]? = some v:=by simpa using hv
   have hlen:i < xs.length:=by
    rw[← q1.len]
    rcases Nat.lt_or_ge i vs.length with q | q
    ·exact q
    ·rw[List.getElem?_eq_none q]at hv';cases hv'
   refine xEA (q1.at (List.getElem?_eq_getElem hlen)) λw hw hr=>?_
   rw[hv']at hw;cases hw
   exact⟨_,List.getElem?_eq_getElem hlen,hr.al⟩
  ·rintro _ i s2 target v Q2 E2 ⟨h1,h2⟩ q
   exact letGo_listiter h1 q
  ·exact⟨0,rfl,Nat.zero_le _,⟨⟨_,Heap.get?_push_size _ rfl,rfl,rfl⟩,(zd l1).push _⟩,λb o q _=>Heap.get?_push_of_some _ q⟩
  ·rintro b rfl;exact nI0
  ·exact λi q=>q.elim
  ·rintro b (hb | hb)
   ·rcases List.mem_cons.mp hb with rfl | hb
    ·refine zeR (zbn rl nI0) λa1 a2 a3 a4=>?_
     exact⟨a1,a2,a3,λ_=>a4⟩
    ·rw[List.mem_singleton.mp hb]
     refine xA (zfs rl1 l1 nX) λa2 a3=>?_
     refine⟨nX,a2,a3,λho i e=>?_⟩
     subst ho
     exact nx (.inr ⟨i,e⟩)
   ·refine zeR (zbR rl1 hb) λa1 a2 a3 a4=>?_
    exact⟨a1,a2,a3,λ_=>a4⟩
theorem zhO {own:Bool}{c:Cx}{o:Nat→Option Addr}{ρ:zc}{s s1:Shared}{I:Addr}{n:Nat}{P:Nat→Value→Prop}{St:Nat→Heap→Prop}{ob:Obj}{xs:List D} (rl:Rel W c o ρ s) (x1:Stp W s s1) (eI:I=s1.heap.objs.size)
  (K:Walks W.prog W.w c.A I [I] [I] n P St) (hn:xs.length=n) (hf:zg xs=true) (h0:St 0 (s1.heap.push ob)) (hst:∀i h,St i h→∃o,h.get? I=some o∧zbS o)
  (hi:∀i v,i < n→P i v→∃d,xs[i]? = some d∧RV s1.heap W.X d v):Src W own c o s xs false (.ref I) {s1 with heap:=s1.heap.push ob}:=by
 subst eI
 have nI:s1.heap.get? s1.heap.objs.size=none:=zap _
 have nI0:s.heap.get? s1.heap.objs.size=none:=by
  cases hq:s.heap.get? s1.heap.objs.size with
  | none=>rfl
  | some ob=>exact absurd (x1.alive rl.gd.1 (a:=s1.heap.objs.size) (by rw[hq];exact nofun)) (λq=>q nI)
 refine SrcS.to ⟨⟨_,_,_,_,Itr.of_walks K (items:=xs) (s₀:=s1) hn hf rfl (zkW x1.g nI) false ?_ hi (λe=>nomatch e),?_,?_,?_,?_⟩,x1.trans x1.gd.push⟩
 ·intro i h q
  refine xEA (hst i h q) λo2 h1 h2=>?_
  refine⟨⟨o2,h1,h2⟩,λb hb=>?_⟩
  rw[List.mem_singleton.mp hb,h1];exact nofun
 ·exact⟨0,rfl,Nat.zero_le _,h0,λb o q _=>Heap.get?_push_of_some _ q⟩
 ·rintro b rfl;exact nI0
 ·exact λi q=>q.elim
 ·rintro b (hb | hb)
  ·rw[List.mem_singleton.mp hb]
   refine zeR (zbn rl nI0) λa1 a2 a3 a4=>?_
   exact⟨a1,a2,a3,λ_=>a4⟩
  ·refine zeR (zbR (rl.mono x1) hb) λa1 a2 a3 a4=>?_
   exact⟨a1,a2,a3,λ_=>a4⟩
theorem zdf (x:List Nat):zg (x.map λc=>.str [c])=true:=by
 induction x with
 | nil=>rfl
 | cons c x ih=>simp only[List.map_cons,zde,zqF,Bool.true_and];exact ih
theorem zcn (a b:Int):zg (zX a b)=true:=by
 unfold zX
 generalize List.range (b - a).toNat=l
 induction l with
 | nil=>rfl
 | cons c x ih=>simp only[List.map_cons,zde,zqG,Bool.true_and];exact ih
theorem zcd {h:Heap}{I:Addr}{T:String}{x:Str}{t:Tok}{i:Nat} (e:h.IsStrIter I T x t i) (hT:T = "str_ascii_iterator"∨T = "str_iterator"):∃o,h.get? I=some o∧zbS o:=by
 refine zdx e λo ho hc _=>?_;clear e
 refine⟨o,ho,?_⟩
 rw[zbS,hc]
 rcases hT with rfl | rfl<;>decide
theorem zqM {own:Bool}{c:Cx}{ρ:zc}{e:Expr}{x:List Nat} (h:Ev W .al c ρ e (.str x)):EvS W own c ρ e false (x.map λc=>.str [c]):=λo s rl Q E k =>
 h o s rl _ _ λv s1 x1 r1=>by
  refine zV r1 λt=>?_
  have hi:∀i v,i < (sv x).cps.size→SignAt (sv x) i v→∃d,(x.map λc=>D.str [c])[i]? = some d∧RV s1.heap W.X d v:=by
   rintro i v _ ⟨c,u,hc,rfl⟩
   have hc':x[i]? = some c:=by simpa using hc
   exact⟨.str [c],by simp[hc'],zN.mpr ⟨u,rfl⟩⟩
  have hn:(x.map λc=>D.str [c]).length=(sv x).cps.size:=by simp
  cases ha:(sv x).cps.all (· < 128)
  ·exact wpAny_pyIter_wide ha (k _ _ (zhO rl x1 rfl (Walks.strWide rl.ok.room.1 _ (sv x) t) hn (zdf x) ⟨_,Heap.get?_push_size _ rfl,rfl,rfl⟩ (λi h q=>zcd q (.inr rfl)) hi))
  ·exact wpAny_pyIter_ascii ha (k _ _ (zhO rl x1 rfl (Walks.strAscii rl.ok.room.1 _ (sv x) t) hn (zdf x) ⟨_,Heap.get?_push_size _ rfl,rfl,rfl⟩ (λi h q=>zcd q (.inl rfl)) hi))
theorem zgv {own:Bool}{c:Cx}{o:Nat→Option Addr}{ρ:zc}{s s1:Shared}{r:Addr}{a b:Int}{t u v:Tok} (rl:Rel W c o ρ s) (x1:Stp W s s1) (ir:IsRange s1.heap r a b 1 t u v) (h1 : -2 ^ 20≤a) (h2:a≤2 ^ 20) (h3 : -2 ^ 20≤b) (h4:b≤2 ^ 20)
  (Q E:Value→Shared→Prop) (k:∀it s',Src W own c o s (zX a b) false it s'→Q it s'):wpAny W.M c.A (pyIter (.ref r)) Q E s1:=by
 have two:(2:Int) ^ 20 < 2 ^ 62:=by decide
 have hn:Builtin.Range.rangeSize a b 1=((b - a).toNat:Nat):=by rw[rangeSize_one];split<;>lia
 refine wpAny_pyIter_range ir (small_one (Int.le_trans (by decide) h1) (Int.lt_of_le_of_lt h2 (by decide)) (Int.le_trans (by decide) h3) (Int.lt_of_le_of_lt h4 (by decide))) (k _ _ ?_)
 refine zhO (n:=(b - a).toNat) rl x1 rfl (Walks.range rl.ok.room.1 s1.heap.objs.size a 1 (b - a).toNat) (by simp[zX]) (zcn a b) ?_ ?_ ?_
 ·rw[hn]
  have e:a+((0:Nat):Int)*1=a:=by simp
  have e2:(((b - a).toNat:Nat):Int) - ((0:Nat):Int)=((b - a).toNat:Nat):=by simp
  rw[e,e2]
  exact Heap.get?_push_size _ rfl
 ·intro i h q
  have q':h.get? s1.heap.objs.size=some _:=q
  refine⟨_,q',?_⟩
  show Value.type "range_iterator"≠_∧Value.type "range_iterator"≠_∧Value.type "range_iterator"≠_
  decide
 ·rintro i v hlt ⟨t,rfl⟩
  refine⟨.int (a+(i:Int)),?_,zi.mpr ⟨t,by simp⟩⟩
  unfold zX
  simp[hlt]
theorem zlG {own:Bool}{c:Cx}{ρ:zc}{x:Str}{p pos:Pos}{es:List Expr}{ds:List D}{xs:List D} (hk:c.env.kindOf x=some .globalImplicit) (fr:FnAt W x (.type "range")) (hn:ze es=true) (h:EvL W .al c ρ es ds)
  (hs:(∃b,ds=[.int b]∧-2 ^ 20≤b∧b≤2 ^ 20∧xs=zX 0 b)∨∃a b,ds=[.int a,.int b]∧-2 ^ 20≤a∧a≤2 ^ 20∧-2 ^ 20≤b∧b≤2 ^ 20∧xs=zX a b) :
  EvS W own c ρ (.Call (.Name x p) es [] pos) false xs:=λo s rl Q E k=>by
 refine wpAny_Call_NameR (zaP fr hk rl (zS (fv:=.type "range") trivial hn h rl λvs s1 x1 r1=>?_))
 rcases hs with ⟨b,rfl,b1,b2,rfl⟩ | ⟨a,b,rfl,a1,a2,b1,b2,rfl⟩
 ·refine zch r1 λv q1=>?_
  refine zW q1 λt=>?_
  refine call_range_1 ?_
  have x2:Stp W s1 {s1 with heap:=s1.heap.push {cls:=.type "range",data:=.fields #[.int 0 s1.toks,.int b t,.int 1 (s1.toks+1)]},toks:=s1.toks+1+1}:=x1.gd.keeps λb o e=>Heap.get?_push_of_some _ e
  exact zgv rl (x1.trans x2) (IsRange.new ..) (by decide) (by decide) b1 b2 Q E k
 ·refine zmV r1 λv u q1 q2=>?_
  refine zW q1 λt=>?_
  refine zW q2 λt'=>?_
  refine call_range_2 ?_
  have x2:Stp W s1 {s1 with heap:=s1.heap.push {cls:=.type "range",data:=.fields #[.int a t,.int b t',.int 1 s1.toks]},toks:=s1.toks+1}:=x1.gd.keeps λb o e=>Heap.get?_push_of_some _ e
  exact zgv rl (x1.trans x2) (IsRange.new ..) a1 a2 b1 b2 Q E k
theorem zqN {own:Bool}{c:Cx}{ρ:zc}{x:Str}{p pos:Pos}{e:Expr}{xs:List D} (hk:c.env.kindOf x=some .globalImplicit) (fr:FnAt W x (.type "reversed")) (hn:ze [e]=true) (h:Ev W (skd own) c ρ e (.list xs)) (hf:zg xs=true) :
  EvS W own c ρ (.Call (.Name x p) [e] [] pos) false xs.reverse:=λo s rl Q E k=>by
 refine wpAny_Call_NameR (zaP fr hk rl ?_)
 refine xA (zv hn c.env) λe1 _=>?_
 rw[e1]
 refine PyProof.Rows.callWith_type rfl (evalArgs_plain (Calls.spliced_cons (h o s rl _ _ λv s1 x1 r1=>Calls.spliced_nil ?_)))
 refine zbt r1 λa vs l1 nx q1=>?_
 have rl1:=rl.mono x1
 have nX:¬W.X a:=λq=>nx (zcK a q)
 have hlt:a < s1.heap.objs.size:=by refine xE l1 λn e=>?_;clear l1;exact Heap.lt_size e
 refine call_reversed_list (zd l1) ?_
 have x2:Stp W s1 {s1 with heap:=s1.heap.push (revObj a ((vs.toArray.size:Int) - 1))}:=x1.gd.push
 have hrev:(s1.heap.push (revObj a ((vs.toArray.size:Int) - 1))).IsRevIter s1.heap.objs.size a ((vs.toArray.size:Int) - 1):=⟨_,Heap.get?_push_size _ rfl,rfl,rfl⟩
 have K:=Walks.listRev (prog:=W.prog) (w:=W.w) (A:=c.A) rl.ok.room.1 s1.heap.objs.size a (Nat.ne_of_lt hlt) vs.toArray
 have st0:(0≤vs.toArray.size∧(s1.heap.push (revObj a ((vs.toArray.size:Int) - 1))).IsRevIter s1.heap.objs.size a ((vs.toArray.size:Int) - 1 - ((0:Nat):Int))∧(s1.heap.push (revObj a ((vs.toArray.size:Int) - 1))).IsList a vs.toArray) :=
  ⟨Nat.zero_le _,by simpa using hrev,(zd l1).push _⟩
 have nI:s1.heap.get? s1.heap.objs.size=none:=zap _
 have nI0:s.heap.get? s1.heap.objs.size=none:=by
  cases hq:s.heap.get? s1.heap.objs.size with
  | none=>rfl
  | some ob=>exact absurd (x1.alive rl.gd.1 (a:=s1.heap.objs.size) (by rw[hq];exact nofun)) (λq=>q nI)
 refine K.self 0 _ _ _ st0 (k _ _ (SrcS.to ⟨⟨_,_,_,_,Itr.of_walks K (items:=xs.reverse) (s₀:=s1) (by have:=q1.len;simp[this]) (zcO hf) rfl (zkW x1.g nI) false ?_ ?_ (λe=>nomatch e),?_,?_,?_,?_⟩,x1.trans x2⟩))
 ·rintro i h ⟨_,h1,h2⟩
  refine zdx (id h1) λob ho hc _=>?_
  refine⟨⟨ob,ho,?_⟩,λb hb=>?_⟩
  ·rw[zbS,hc];decide
  ·rcases List.mem_cons.mp hb with rfl | hb
   ·rw[ho];exact nofun
   ·rw[List.mem_singleton.mp hb];refine xEA h2 λol hol _=>?_;clear h2;rw[hol];exact nofun
 ·intro i v hlt hv
  have hv':vs.reverse[i]? = some v:=by
   have hi:i < vs.length:=by simpa using hlt
   rw[List.getElem?_reverse hi]
   simpa using hv
  have hlen:i < xs.reverse.length:=by
   have:=q1.len
   simp at hlt ⊢;exact Nat.le_trans hlt (Nat.le_of_eq this)
  refine xEA (q1.rev.at (List.getElem?_eq_getElem hlen)) λw hw hr=>?_
  rw[hv']at hw;cases hw
  exact⟨_,List.getElem?_eq_getElem hlen,hr.al⟩
 ·exact⟨0,rfl,Nat.zero_le _,st0,λb o q _=>Heap.get?_push_of_some _ q⟩
 ·rintro b rfl;exact nI0
 ·exact λi q=>q.elim
 ·rintro b (hb | hb)
  ·rcases List.mem_cons.mp hb with rfl | hb
   ·refine zeR (zbn rl nI0) λa1 a2 a3 a4=>?_
    exact⟨a1,a2,a3,λ_=>a4⟩
   ·rw[List.mem_singleton.mp hb]
    refine xA (zfs rl1 l1 nX) λa2 a3=>?_
    refine⟨nX,a2,a3,λho i e=>?_⟩
    subst ho
    exact nx (.inr ⟨i,e⟩)
  ·refine zeR (zbR rl1 hb) λa1 a2 a3 a4=>?_
   exact⟨a1,a2,a3,λ_=>a4⟩
end
end Mine.Internal
end

noncomputable section
open PySem PySem.Calls PyProof.Rows PySem.SeqAt
namespace Mine.Internal
noncomputable def upd (o:Nat→Option Addr) (i:Nat) (a:Option Addr):Nat→Option Addr:=λj=>if j=i then a else o j
theorem zan {o:Nat→Option Addr}{i:Nat}{a:Option Addr}:upd o i a i=a:=by simp[upd]
theorem zcy {o:Nat→Option Addr}{i j:Nat}{a:Option Addr} (h:j≠i):upd o i a j=o j:=by simp[upd,h]
theorem zmC {o:Nat→Option Addr}{i:Nat}:upd o i (o i)=o:=by funext j;simp only[upd];split<;>simp_all
section
variable {W:Wd}{c:Cx}{o o':Nat→Option Addr}{ρ:zc}{s s0 s1 s':Shared}{i:Nat}{nm:Str}{b:B}
theorem Rel.put (rl:Rel W c o ρ s0) (hn:c.ns[i]? = some nm) (stp:Stp W c.base s')
  (hloc:∃m,s'.heap.Ns c.env.locals m) (hcel:∀x k,c.env.cells.lookup x=some k→∃v,s'.heap.IsCell k v)
  (hv:∃v,Var c.env s'.heap nm v∧BV W s'.heap o' i b v)
  (hvar:∀j x v,j≠i→c.ns[j]? = some x→Var c.env s0.heap x v→Var c.env s'.heap x v)
  (ho:∀j,j≠i→o' j=o j)
  (hk:∀b ob,s0.heap.get? b=some ob→(∃xs n,ob.data = .seq xs n)→¬W.X b→o i≠some b→s'.heap.get? b=some ob)
  (hnew:∀a,o' i=some a→(o i=some a∨s0.heap.get? a=none)∧c.base.heap.get? a=none∧∃vs,s'.heap.PlainList a vs):Rel W c o' (zaU ρ i b) s':=by
 have lists:∀j a,o j=some a→∃vs n,s0.heap.get? a=some {cls:=.type "list",data:=.seq vs n}:=λj a e=>by
  refine zmn (rl.own j a e) λ_ vs n e=>?_;exact⟨vs,n,e⟩
 have keepRV:∀b ob,s0.heap.get? b=some ob→(ob.cls = .type "list"∧¬OX W o b∧∃xs n,ob.data = .seq xs n)∨(ob.cls = .type "tuple"∧∃xs n,ob.data = .seq xs n)→s'.heap.get? b=some ob:=by
  rintro b ob e (⟨_,hx,hd⟩ | ⟨hc,hd⟩)
  ·exact hk b ob e hd (λq=>hx (.inl q)) λq=>hx (.inr ⟨i,q⟩)
  ·refine hk b ob e hd (λq=>(W.xcls rl.step.g q e).1 hc) λq=>?_
   refine xEE (lists i b q) λvs n e2=>?_
   rw[e]at e2
   have q:Value.type "tuple" = Value.type "list":=hc.symm.trans (congrArg Obj.cls (Option.some.inj e2))
   exact absurd q (by decide)
 have hX:∀a,OX W o' a→OX W o a∨s0.heap.get? a=none:=by
  rintro a (q | ⟨j,q⟩)
  ·exact .inl (.inl q)
  ·by_cases hj:j=i
   ·subst hj
    rcases(hnew a q).1 with q | q
    ·exact .inl (.inr ⟨j,q⟩)
    ·exact .inr q
   ·rw[ho j hj]at q;exact .inl (.inr ⟨j,q⟩)
 have keepOwn:∀j a vs,j≠i→o j=some a→s0.heap.PlainList a vs→s'.heap.PlainList a vs:=λj a vs hj e ⟨n,e2⟩ =>
  ⟨n,hk a _ e2 ⟨_,_,rfl⟩ (rl.ownX e) λq=>hj (rl.inj j i a e q)⟩
 refine⟨rl.ok,stp,hloc,hcel,λj x bj h1 h2=>?_,λj a e=>?_,λj1 j2 a e1 e2=>?_⟩
 ·by_cases hj:j=i
  ·subst hj
   rw[hn]at h1;cases h1
   unfold zaU at h2
   rw[List.getElem?_set_self']at h2
   cases hq:ρ[j]? with
   | none=>rw[hq]at h2;cases h2
   | some q=>rw[hq]at h2;cases h2;exact hv
  ·unfold zaU at h2
   rw[List.getElem?_set_ne (λe=>hj e.symm)]at h2
   refine xEA (rl.vars j x bj h1 h2) λv q1 q2=>?_
   refine⟨v,hvar j x v hj h1 q1,?_⟩
   cases bj with
   | fz d=>exact RV.to keepRV hX q2
   | mu xs=>refine zar q2 λa vs e1 e2 e3 e4=>?_;clear q2;exact⟨a,vs,e1,by rw[ho j hj];exact e2,keepOwn j a _ hj e2 e3,RVs.to keepRV hX e4⟩
 ·by_cases hj:j=i
  ·subst hj;exact(hnew a e).2
  ·rw[ho j hj]at e
   refine xAE (rl.own j a e) λh1 vs h3=>?_
   exact⟨h1,vs,keepOwn j a vs hj e h3⟩
 ·have key:∀j a,j≠i→o' i=some a→o' j=some a→False:=λj a hj e1 e2=>by
   rw[ho j hj]at e2
   rcases(hnew a e1).1 with q | q
   ·exact hj (rl.inj j i a e2 q)
   ·exact zcD rl e2 q
  by_cases h1:j1=i
  ·by_cases h2:j2=i
   ·rw[h1,h2]
   ·subst h1;exact(key j2 a h2 e1 e2).elim
  ·by_cases h2:j2=i
   ·subst h2;exact(key j1 a h1 e2 e1).elim
   ·rw[ho _ h1]at e1;rw[ho _ h2]at e2;exact rl.inj j1 j2 a e1 e2
theorem zcz (rl:Rel W c o ρ s) {a:Addr}{h':Heap}{tk:Nat} (hb:c.base.heap.get? a=none) (hc:∀ob,s.heap.get? a=some ob→¬(ob.cls = .type "code"∧∃vs,ob.data = .fields vs)) (hs:Heap.SameBut a s.heap h') (ht:s.toks≤tk) :
  Stp W c.base {s with heap:=h',toks:=tk} where
 evo:=λb ob e nx=>by
  have e2:=rl.step.evo b ob e nx
  show h'.get? b=some ob
  rw[hs.2 b (by rintro rfl;rw[hb]at e;cases e)];exact e2
 g:=W.keep rl.step.g λb ob e q=>by
  rw[hs.2 b ?_]
  ·exact e
  ·rintro rfl
   rcases q with q | q
   ·exact W.sy rl.ok.good q hb
   ·exact hc ob e q
 os:=rl.step.os
 gens:=rl.step.gens
 bare:=rl.step.bare
 toks:=Nat.le_trans rl.step.toks ht
theorem zdm {a:Addr}{h':Heap}{tk:Nat} (hs:Heap.SameBut a s.heap h') (ha:h'.get? a≠none):zca s {s with heap:=h',toks:=tk}:=λb hb=>by
 by_cases q:b=a
 ·rw[q];exact ha
 ·show h'.get? b≠none;rw[hs.2 b q];exact hb
theorem zef {h:Heap}{a:Addr}{m:Str→Option Value} (hn:h.Ns a m):∀ob,h.get? a=some ob→¬(ob.cls = .type "code"∧∃vs,ob.data = .fields vs):=by
 rintro ob e ⟨_,vs,hd⟩
 refine zcb hn λo es ep ho hd' _=>?_;clear hn
 rw[e]at ho;cases ho;rw[hd]at hd';cases hd'
theorem zeg {h:Heap}{a:Addr}{m:Option Value} (hn:h.IsCell a m):∀ob,h.get? a=some ob→¬(ob.cls = .type "code"∧∃vs,ob.data = .fields vs):=by
 rintro ob e ⟨_,vs,hd⟩
 refine xEA hn λo ho hd'=>?_;clear hn
 rw[e]at ho;cases ho;rw[hd]at hd';cases hd'
noncomputable def zeE (c:Cx) (s s':Shared):Prop:=∀b ob,s.heap.get? b=some ob→b≠c.env.locals→(∀x k,c.env.cells.lookup x=some k→b≠k)→s'.heap.get? b=some ob
theorem zeE.left {o:Nat→Option Addr} (h:zeE c s s'):zga W c o s s':=λb ob e h1 h2 _ _=>h b ob e h1 h2
theorem zeE.refl:zeE c s s:=λ_ _ e _ _=>e
theorem zeE.trans (x:zeE c s0 s1) (y:zeE c s1 s'):zeE c s0 s':=λb ob e h1 h2=>y b ob (x b ob e h1 h2) h1 h2
theorem zgn (rl:Rel W c o ρ s0) (x:Stp W s0 s) (hi:i < c.no) (hn:c.ns[i]? = some nm) {v:Value} (ho:∀j,j≠i→o' j=o j) (hb:BV W s.heap o' i b v)
  (hnew:∀a,o' i=some a→(o i=some a∨s0.heap.get? a=none)∧c.base.heap.get? a=none∧∃vs,s.heap.PlainList a vs)
  {Q:Unit→Shared→Prop}{E:Value→Shared→Prop} (k:∀s',Rel W c o' (zaU ρ i b) s'→zeE c s s'→zt s s'→zca s s'→Q () s'):wpAny W.M c.A (storeName c.env nm v) Q E s:=by
 have rls:=rl.mono x
 refine xE rls.loc λm hm=>?_
 have seqs:∀{a:Addr}{h':Heap},Heap.SameBut a s.heap h'→(∀ob,s.heap.get? a=some ob→∀xs n,ob.data≠.seq xs n)→∀b ob,s.heap.get? b=some ob→(∃xs n,ob.data = .seq xs n)→h'.get? b=some ob:=by
  rintro a h' hs hne b ob e ⟨xs,n,hd⟩
  rw[hs.2 b (by rintro rfl;exact hne ob e xs n hd)];exact e
 have fin:∀{a:Addr}{h':Heap}{tk:Nat},c.base.heap.get? a=none→(∀ob,s.heap.get? a=some ob→¬(ob.cls = .type "code"∧∃vs,ob.data = .fields vs))→(∀ob,s.heap.get? a=some ob→∀xs n,ob.data≠.seq xs n) →
   Heap.SameBut a s.heap h'→s.toks≤tk→(∃m,h'.Ns c.env.locals m)→(∀x k,c.env.cells.lookup x=some k→∃v,h'.IsCell k v)→Var c.env h' nm v →
   (∀j x v,j≠i→c.ns[j]? = some x→Var c.env s.heap x v→Var c.env h' x v)→Rel W c o' (zaU ρ i b) {s with heap:=h',toks:=tk}:=by
  intro a h' tk q1 q2 q3 q4 q5 q6 q7 q8 q9
  have ks:=seqs q4 q3
  refine rl.put hn (zcz rls q1 q2 q4 q5) q6 q7 ⟨v,q8,?_⟩ (λj x' v hj e hv=>q9 j x' v hj e (hv.to (λm h=>zgD rl.step.g x h) λ_ _ _ h=>zC rl.step.g x h)) ho
   (λb ob e hd nx _=>ks b ob (x.evo b ob e nx) hd) λa e=>?_
  ·have hk2:∀b o,s.heap.get? b=some o→(o.cls = .type "list"∧¬OX W o' b∧∃xs n,o.data = .seq xs n)∨(o.cls = .type "tuple"∧∃xs n,o.data = .seq xs n)→h'.get? b=some o:=by
    rintro b o e (⟨_,_,hd⟩ | ⟨_,hd⟩)<;>exact ks b o e hd
   cases b with
   | fz d=>exact RV.to hk2 (λ_ q=>.inl q) hb
   | mu xs=>obtain⟨a,vs,e1,e2,⟨n,e3⟩,e4⟩:=hb;exact⟨a,vs,e1,e2,⟨n,ks _ _ e3 ⟨_,_,rfl⟩⟩,RVs.to hk2 (λ_ q=>.inl q) e4⟩
  ·refine zvH (hnew a e) λh1 h2 vs n h3=>?_
   exact⟨h1,h2,vs,n,ks _ _ h3 ⟨_,_,rfl⟩⟩
 rcases rl.ok.kinds i nm hi hn with hk | ⟨hk,hc⟩
 ·refine wpAny_storeName_local hk hm (λh' hn' hs=>?_) (by rw[rl.ok.kind];rfl)
  have nseq:∀ob,s.heap.get? c.env.locals=some ob→∀xs n,ob.data≠.seq xs n:=λob e xs n hd=>by
   refine zcb hm λo2 es ep h2 h3 _=>?_;clear hm;rw[e]at h2;cases h2;rw[hd]at h3;cases h3
  have cellne:∀k v,s.heap.IsCell k v→k≠c.env.locals:=by
   rintro k v ⟨o2,h2,h3⟩ rfl
   refine zcb hm λo3 es ep h4 h5 _=>?_;clear hm;rw[h2]at h4;cases h4;rw[h3]at h5;cases h5
  have cls:∀x k,c.env.cells.lookup x=some k→∃v,h'.IsCell k v:=λx k e=>let ⟨v,hv⟩:=rls.cel x k e;⟨v,hv.sameBut hs (cellne k v hv)⟩
  refine k _ (fin rl.ok.lnew (zef hm) nseq hs (Nat.le_succ _) ⟨_,hn'⟩ cls (.inl ⟨hk,_,hn',by simp⟩) ?_) ?_ (λ_ _ e=>e) (zdm hs (by refine zaA hn' λo9 _ _ h9 _=>?_;clear hn';rw[h9];exact nofun))
  ·rintro j y u hj hy (⟨hky,m',hm',hu⟩ | ⟨hky,k2,hl,hu⟩)
   ·refine .inl ⟨hky,_,hn',?_⟩
    have:y≠nm:=λe=>hj ((List.getElem?_inj (List.getElem?_eq_some_iff.mp hy).1 rl.ok.nd).mp (by rw[hy,hn,e]))
    have em:m=m':=by
     funext z
     refine zbr hm λo2 es ep h2 h3 h4 h5=>?_;clear hm
     refine zbr hm' λo3 es' ep' h6 h7 h8 h9=>?_;clear hm'
     rw[h2]at h6;cases h6;rw[h3]at h7;cases h7
     rw[← h5,← h9]
    simp only[this,if_false];rw[em];exact hu
   ·exact .inr ⟨hky,k2,hl,hu.sameBut hs (cellne _ _ hu)⟩
  ·intro b ob e h1 _
   show h'.get? b=some ob
   rw[hs.2 b h1];exact e
 ·refine xE (Option.isSome_iff_exists.mp hc) λkc hkc=>?_
  refine xE (rls.cel nm kc hkc) λv0 hv0=>?_
  refine wpAny_storeName_cell rl.ok.kind hk hkc hv0 λh' hn' hs=>?_
  have nseq:∀ob,s.heap.get? kc=some ob→∀xs n,ob.data≠.seq xs n:=λob e xs n hd=>by
   refine xEA hv0 λo2 h2 h3=>?_;clear hv0;rw[e]at h2;cases h2;rw[hd]at h3;cases h3
  have locne:c.env.locals≠kc:=by
   rintro rfl
   refine xEA hv0 λo2 h2 h3=>?_;clear hv0
   refine zcb hm λo3 es ep h4 h5 _=>?_;clear hm;rw[h2]at h4;cases h4;rw[h3]at h5;cases h5
  have cls:∀x k,c.env.cells.lookup x=some k→∃v,h'.IsCell k v:=λx k e=>by
   by_cases hq:k=kc
   ·subst hq;exact⟨_,hn'⟩
   ·refine xE (rls.cel x k e) λv hv=>?_;exact⟨v,hv.sameBut hs hq⟩
  refine k _ (fin (rl.ok.cnew i nm kc hi hn hkc) (zeg hv0) nseq hs (Nat.le_refl _) ⟨_,hm.sameBut hs locne⟩ cls (.inr ⟨.inl hk,kc,hkc,hn'⟩) ?_) ?_ (λ_ _ e=>e) (zdm hs (by refine xEA hn' λo9 h9 _=>?_;clear hn';rw[h9];exact nofun))
  ·rintro j y u hj hy (⟨hky,m',hm',hu⟩ | ⟨hky,k2,hl,hu⟩)
   ·exact .inl ⟨hky,m',hm'.sameBut hs locne,hu⟩
   ·refine .inr ⟨hky,k2,hl,hu.sameBut hs ?_⟩
    rintro rfl
    have e:=rl.ok.cinj y nm k2 hl hkc
    exact hj ((List.getElem?_inj (List.getElem?_eq_some_iff.mp hy).1 rl.ok.nd).mp (by rw[hy,hn,e]))
  ·intro b ob e _ h1
   show h'.get? b=some ob
   rw[hs.2 b (h1 nm kc hkc)];exact e
theorem zaj {a:Option Addr} (h:∀x,a=some x→(∃j,o j=some x)∨s.heap.get? x=none):zbC o (upd o i a) s:=λj x e=>by
 by_cases hj:j=i
 ·subst hj;rw[zan]at e;exact h x e
 ·rw[zcy hj]at e;exact .inl ⟨j,e⟩
theorem zbs {d:D} (rl:Rel W c o ρ s0) (x:Stp W s0 s) (hi:i < c.no) (hn:c.ns[i]? = some nm) {v:Value} (r:RV s.heap (OX W o) d v)
  {Q:Unit→Shared→Prop}{E:Value→Shared→Prop} (k:∀s',Rel W c (upd o i none) (zaU ρ i (.fz d)) s'→zeE c s s'→zt s s'→zca s s'→Q () s'):wpAny W.M c.A (storeName c.env nm v) Q E s :=
 zgn (o':=upd o i none) (b:=.fz d) rl x hi hn (λj hj=>zcy hj) (RV.weak r (by
  rintro a (q | ⟨j,q⟩)
  ·exact .inl q
  ·by_cases hj:j=i
   ·subst hj;rw[zan]at q;cases q
   ·rw[zcy hj]at q;exact .inr ⟨j,q⟩)) (λa e=>by rw[zan]at e;cases e) k
theorem zlb (rl:Rel W c o ρ s) {xs xs':List D}{a:Addr}{h':Heap}{vs vs':List Value} (hn:c.ns[i]? = some nm) (hρ:ρ[i]? = some (some (.mu xs))) (ho:o i=some a) (hv:Var c.env s.heap nm (.ref a))
  (hl:s.heap.PlainList a vs.toArray) (hl':h'.PlainList a vs'.toArray) (hs:Heap.SameBut a s.heap h') (hr:RVs s.heap (OX W o) xs' vs') {P:Prop} (hd:Done W c o s .next (zaU ρ i (.mu xs')) .next {s with heap:=h'}→P):P:=hd (by
 refine xE hl λn e0=>?_;clear hl
 have hsq:∀b ob,s.heap.get? b=some ob→b≠a→h'.get? b=some ob:=λb ob e hb=>by rw[hs.2 b hb];exact e
 refine xE rl.loc λm hm=>?_
 have ld:=zR rl e0 (λes n e=>by cases e)
 have cd:=zaF rl e0 (λv e=>by cases e)
 have hvar:∀x v,Var c.env s.heap x v→Var c.env h' x v:=λx v hx=>hx.to (λm h=>h.sameBut hs ld.symm) λk v e h=>h.sameBut hs (cd _ k e).symm
 have hk:∀b ob,s.heap.get? b=some ob→(ob.cls = .type "list"∧¬OX W o b∧∃xs n,ob.data = .seq xs n)∨(ob.cls = .type "tuple"∧∃xs n,ob.data = .seq xs n)→h'.get? b=some ob:=by
  rintro b ob e hc
  refine hsq b ob e ?_
  rintro rfl
  rcases hc with ⟨_,hx,_⟩ | ⟨hc,_⟩
  ·exact hx (.inr ⟨i,ho⟩)
  ·rw[e0]at e;cases e;exact absurd (Value.type.inj hc) (by decide)
 refine⟨o,rl.put hn (zcz (tk:=s.toks) rl (rl.own i a ho).1 (λob e q=>by rw[e0]at e;cases e;exact absurd (Value.type.inj q.1) (by decide)) hs (Nat.le_refl _)) ⟨m,hm.sameBut hs ld.symm⟩
  (λx k e=>let ⟨v,hv⟩:=rl.cel x k e;⟨v,hv.sameBut hs (cd x k e).symm⟩) ⟨_,hvar _ _ hv,a,vs',rfl,ho,hl',RVs.to hk (λ_ q=>.inl q) hr⟩ (λj x v _ _ h=>hvar x v h) (λ_ _=>rfl)
  (λb ob e _ _ hne=>hsq b ob e λq=>hne (q▸ho)) (λb e=>⟨.inl e,(rl.own i b e).1,by rw[ho]at e;cases e;exact⟨_,hl'⟩⟩),rfl,λb ob e _ _ h3 _=>hsq b ob e λq=>h3 i (q▸ho),.refl,λ_ _ e=>e,zdm (tk:=s.toks) hs (by refine xE hl' λn9 h9=>?_;clear hl';rw[h9];exact nofun)⟩)
end
end Mine.Internal
end

noncomputable section
open PySem PySem.Calls PyProof.Rows PySem.SeqAt
namespace Mine.Internal
theorem zt.trans {a b c:Shared} (x:zt a b) (y:zt b c):zt a c:=λi g e=>y i g (x i g e)
theorem zbC.trans {o o1 o2:Nat→Option Addr}{s s1:Shared} (x:zbC o o1 s) (y:zbC o1 o2 s1) (h:zca s s1):zbC o o2 s:=λi a e=>by
 rcases y i a e with ⟨j,q⟩ | q
 ·exact x j a q
 ·exact .inr (h.none q)
section
variable {W:Wd}{c:Cx}{o o1 o2 o':Nat→Option Addr}{ρ ρ1 ρ2 ρ':zc}{s s0 s1 s2 s':Shared}{i:Nat}{nm:Str}{b:B}{d:D}{e:Expr}{p pos:Pos}{fl:Fl}{f:Flow}
theorem Stp.aliv (g:W.G s.heap) (x:Stp W s s'):zca s s':=λa h=>x.alive g h
theorem Done.cons {f1:Flow} (x:Done W c o s .next ρ1 f1 s1) (y:∀o1,Rel W c o1 ρ1 s1→Done W c o1 s1 fl ρ2 f s2):Done W c o s fl ρ2 f s2:=by
 obtain⟨o1,r1,_,l1,n1,g1,a1⟩:=x
 obtain⟨o2,r2,f2,l2,n2,g2,a2⟩:=y o1 r1
 exact⟨o2,r2,f2,l1.trans n1 l2,n1.trans n2 a1,g1.trans g2,a1.trans a2⟩
theorem Done.of (rl:Rel W c o ρ s) (x:Stp W s s1) (y:Done W c o s1 fl ρ' f s2):Done W c o s fl ρ' f s2:=by
 obtain⟨o2,r2,f2,l2,n2,g2,a2⟩:=y
 have a1:=x.aliv rl.step.g
 exact⟨o2,r2,f2,(zga.of_step x).trans .refl l2,zbC.refl.trans n2 a1,zt.trans x.gens g2,a1.trans a2⟩
theorem zoF (hi:i < c.no) (hn:c.ns[i]? = some nm) (h:Ev W .ow c ρ e d) (hs:swapsWith e (some (.Name nm p)) pos.line c.env=pure false):Ex1 W c ρ (.Assign [.Name nm p] e pos) .next (zaU ρ i (.fz d)):=λo s rl E =>
 wpAny_Assign_Name (h o s rl _ _ λv s1 x1 r1=>zbs rl x1 hi hn r1 λs' r l g a=>Done.of rl x1 ⟨_,r,rfl,l.left,zaj nofun,g,a⟩) hs
theorem zuh {xs:List D} (hi:i < c.no) (hn:c.ns[i]? = some nm) (h:Ev W .nu c ρ e (.list xs)) (hf:zg xs=true) (hs:swapsWith e (some (.Name nm p)) pos.line c.env=pure false) :
  Ex1 W c ρ (.Assign [.Name nm p] e pos) .next (zaU ρ i (.mu xs)):=λo s rl E =>
 wpAny_Assign_Name (h o s rl _ _ λv s1 x1 r1=>by
  refine zbt r1 λa vs hl hx hr=>?_
  have nA:s.heap.get? a=none:=Decidable.byContradiction λq=>hx (.inr q)
  refine zgn (o':=upd o i (some a)) (b:=.mu xs) rl x1 hi hn (λj hj=>zcy hj) ⟨a,vs,rfl,zan,hl,hr.flat hf⟩ (λb e=>?_) λs' r l g al =>
   ⟨_,r,rfl,(zga.of_step x1).trans .refl l.left,zaj (by rintro x e;cases e;exact .inr nA),zt.trans x1.gens g,(x1.aliv rl.step.g).trans al⟩
  ·rw[zan]at e;cases e
   exact⟨.inr nA,Decidable.byContradiction λq=>zdl rl q nA,vs.toArray,hl⟩) hs
noncomputable def ziQ (W:Wd) (c:Cx):List (Value→Sem Unit)→List Nat→Prop
 | [],is=>is=[]
 | f::fs,is=>∃i r nm,is=i::r∧i < c.no∧c.ns[i]? = some nm∧(∀v s (Q:Unit→Shared→Prop) (E:Value→Shared→Prop),wpAny W.M c.A (storeName c.env nm v) Q E s→wpAny W.M c.A (f v) Q E s)∧ziQ W c fs r
theorem RV.left {X:Addr→Prop} (rl:Rel W c o ρ s) (l:zga W c o s s') {v:Value} (hf:zbp d=true) (r:RV s.heap W.X d v):RV s'.heap X d v :=
 r.flat_to hf λb ob e hc=>by
  refine zeR (zbR rl ⟨ob,e,hc⟩) λh1 h2 h3 h4=>?_
  exact l b ob e h2 h3 h4 h1
theorem RVs.left {ds:List D}{X:Addr→Prop} (rl:Rel W c o ρ s) (l:zga W c o s s') {v:List Value} (hf:zg ds=true) (r:RVs s.heap W.X ds v):RVs s'.heap X ds v :=
 r.flat_to hf λb ob e hc=>by
  refine zeR (zbR rl ⟨ob,e,hc⟩) λh1 h2 h3 h4=>?_
  exact l b ob e h2 h3 h4 h1
theorem zak:∀{is:List Nat}{ds:List D}{ρ ρ':zc},zal ρ is ds=some ρ'→zg ds=true
 | [],[],_,_,_=>rfl
 | [],_::_,_,_,h=>zl h
 | _::_,[],_,_,h=>zl h
 | i::is,d::ds,ρ,ρ',h=>by
  refine zay (znR.symm.trans h) λhf h=>?_
  simp only[zde,Bool.and_eq_true]
  exact⟨hf,zak h⟩
theorem zda:∀{fs:List (Value→Sem Unit)}{is:List Nat}{ds:List D}{vs:List Value}{ρ:zc}{o:Nat→Option Addr}{s:Shared},Rel W c o ρ s→ziQ W c fs is→zal ρ is ds=some ρ'→RVs s.heap W.X ds vs →
  ∀{Q:Unit→Shared→Prop}{E:Value→Shared→Prop},(∀s',Done W c o s .next ρ' .next s'→Q () s')→wpAny W.M c.A (assignInOrder fs vs) Q E s
 | [],is,ds,vs,ρ,o,s,rl,hs,hb,hr,Q,E,k=>by
  have hs:is=[]:=hs;subst hs
  cases ds with
  | nil=>cases zQ hr;simp only[zrx,Option.some.injEq]at hb;subst hb;exact wpAny_pure (k s (Done.of_stp rl rl.gd.refl))
  | cons=>exact zl hb
 | f::fs,is,ds,vs,ρ,o,s,rl,hs,hb,hr,Q,E,k=>by
  refine zhS hs λi r nm q3_ hi hn hf ht=>?_;clear hs;subst q3_
  cases ds with
  | nil=>exact zl hb
  | cons d ds =>
   refine zao hr λv u r1 r2=>?_
   have hfl:=zak hb
   simp only[zde,Bool.and_eq_true]at hfl
   simp only[znR,hfl.1,if_true]at hb
   show wpAny _ _ (do holding u (f v);assignInOrder fs u) Q E s
   refine wpAny_bind (wpAny_holding (hf v s _ _ (zbs rl rl.gd.refl hi hn (r1.flat hfl.1) λs' r l g a=>?_)))
   have l:zga W c o s s':=l.left
   have D1:Done W c o s .next (zaU ρ i (.fz d)) .next s':=⟨_,r,rfl,l,zaj nofun,g,a⟩
   exact zda r ht hb (r2.left rl l hfl.2) λs2 D2=>k s2 (by
    obtain⟨o2,r2,f2,l2,n2,g2,a2⟩:=D2
    have n1:zbC o (upd o i none) s:=zaj (by intro x e;cases e)
    exact⟨o2,r2,f2,l.trans n1 l2,n1.trans n2 a,zt.trans g g2,a.trans a2⟩)
noncomputable def zrm (c:Cx):List Expr→List Nat→Prop
 | [],is=>is=[]
 | t::ts,is=>∃i r nm p,t = .Name nm p∧is=i::r∧i < c.no∧c.ns[i]? = some nm∧zrm c ts r
theorem zuV {nm:Str}{p:Pos}{ts:List Expr}{env:Env}:assignEach (.Name nm p::ts) env=(false,assign (.Name nm p) env)::assignEach ts env:=rfl
theorem zrm.stores:∀{ts:List Expr}{is:List Nat},zrm c ts is→ziQ W c ((assignEach ts c.env).map (·.2)) is∧(assignEach ts c.env).length=is.length∧(assignEach ts c.env).findIdx? (·.1)=none
 | [],is,h=>by have h:is=[]:=h;subst h;exact⟨rfl,rfl,rfl⟩
 | t::ts,is,h=>by
  refine zgf h λi r nm p q4_ q5_ hi hn ht=>?_;clear h;subst q4_;subst q5_
  refine xAA ht.stores λh1 h2 h3=>?_
  refine⟨?_,by simp[zuV,h2],by simpa [zuV,List.findIdx?_cons] using h3⟩
  exact⟨i,r,nm,rfl,hi,hn,λv s Q E h=>PyProof.Rows.assign_Name h,h1⟩
theorem zcV:∀{is:List Nat}{ds:List D}{ρ ρ':zc},zal ρ is ds=some ρ'→is.length=ds.length
 | [],[],_,_,_=>rfl
 | [],_::_,_,_,h=>zl h
 | _::_,[],_,_,h=>zl h
 | i::is,d::ds,ρ,ρ',h=>by
  refine zay (znR.symm.trans h) λ_ h=>?_
  simp[zcV h]
theorem zgh {ts:List Expr}{is:List Nat}{ds:List D}{k:Nat}{v:Value} (rl:Rel W c o ρ s) (ht:zrm c ts is) (hb:zal ρ is ds=some ρ') (hr:RV s.heap W.X (.tup ds) v) {Q:Unit→Shared→Prop}{E:Value→Shared→Prop}
  (kk:∀s',Done W c o s .next ρ' .next s'→Q () s'):wpAny W.M c.A (assign (.Tuple ts k p) c.env v) Q E s:=by
 refine zkE hr λa vs h1 h2=>?_
 refine xAA (ht.stores (W:=W)) λq1 q2 q3=>?_
 refine wpAny_assign_Tuple rl.ok.room.1 h1 (by rw[q2,zcV hb];simp[h2.len]) q3 λh' he=>?_
 have x:Stp W s {s with heap:=h'}:=rl.gd.keeps (tk:=s.toks) λb ob e=>he b ob (Nat.ne_of_lt (Heap.lt_size e)) e
 exact zda (rl.mono x) q1 hb (h2.step rl.step.g x λ_ q=>q) λs' D1=>kk s' (Done.of rl x D1)
theorem zug {ts:List Expr}{is:List Nat}{ds:List D}{k:Nat} (ht:zrm c ts is) (h:Ev W .al c ρ e (.tup ds)) (hb:zal ρ is ds=some ρ') (hs:swapsWithSole [.Tuple ts k p] e pos.line c.env=pure false) (hw:swappedStores [.Tuple ts k p] e c.env=pure none) :
  Ex1 W c ρ (.Assign [.Tuple ts k p] e pos) .next ρ':=λo s rl E =>
 Assign_Tuple (h o s rl _ _ λv s1 x1 r1=>zgh (rl.mono x1) ht hb r1 λs' D=>Done.of rl x1 D) hs hw
theorem zjG {i j:Nat}{a b:D} (h:zal ρ [i,j] [a,b]=some ρ') (hij:i≠j):zal ρ [j,i] [b,a]=some ρ':=by
 have hf:=zak h
 simp only[zmr,zde,Bool.and_eq_true]at hf
 simp only[zrx,znR,hf.1,hf.2.1,if_true,Option.some.injEq,zaU]at h ⊢
 rw[List.set_comm _ _ (Ne.symm hij)];exact h
theorem zqH {n1 n2:Str}{p1 p2:Pos}{i j:Nat}{a b:D}{k:Nat} (hi:i < c.no) (hin:c.ns[i]? = some n1) (hj:j < c.no) (hjn:c.ns[j]? = some n2) (hij:i≠j) (h:Ev W .al c ρ e (.tup [a,b])) (hb:zal ρ [i,j] [a,b]=some ρ')
  (hs:swapsWithSole [.Tuple [.Name n1 p1,.Name n2 p2] k p] e pos.line c.env=pure false) (hw:swappedStores [.Tuple [.Name n1 p1,.Name n2 p2] k p] e c.env=pure (some [n1,n2])) :
  Ex1 W c ρ (.Assign [.Tuple [.Name n1 p1,.Name n2 p2] k p] e pos) .next ρ':=λo s rl E=>by
 refine Assign_Tuple_swapped (h o s rl _ _ λv s1 x1 r1=>?_) hs hw
 refine zkE r1 λt vs h1 h2=>?_
 refine zbb (zvn h2) λva vb q2_ q1 q2=>?_;subst q2_
 refine wpAny_unpackItems_tuple (items:=#[va,vb]) rl.ok.room.1 h1 λh' he=>?_
 have rl1:=rl.mono x1
 have x:Stp W s1 {s1 with heap:=h'}:=x1.gd.keeps (tk:=s1.toks) λb ob e=>he b ob (Nat.ne_of_lt (Heap.lt_size e)) e
 refine zda (is:=[j,i]) (ds:=[b,a]) (rl1.mono x) ?_ (zjG hb hij) ((RVs.cons q2 (RVs.one q1)).step x1.g x λ_ q=>q) λs' D=>Done.of rl x1 (Done.of rl1 x D)
 exact⟨j,[i],n2,rfl,hj,hjn,λv s Q E h=>wpAny_bindName h,i,[],n1,rfl,hi,hin,λv s Q E h=>wpAny_bindName h,rfl⟩
theorem zuj {op:Operator}{x a b':D} (hi:i < c.no) (hn:c.ns[i]? = some nm) (hρ:∃b,ρ[i]? = some (some b)) (hg:zbd ρ i=some a) (h:Ev W .al c ρ e b') (ha:zmj op a b'=some d) :
  Ex1 W c ρ (.AugAssign (.Name nm p) op e pos) .next (zaU ρ i (.fz d)):=λo s rl E=>by
 refine xE hρ λb hb=>?_;clear hρ
 refine xEA (rl.vars i nm b hn hb) λv hv hbv=>?_
 have hrv:RV s.heap W.X a v:=by
  rw[zfM hb]at hg
  cases b with
  | fz d=>cases hg;exact RV.weak hbv λa q=>.inl q
  | mu xs=>cases hg;refine zar hbv λa vs q2_ ho hl hr=>?_;clear hbv;subst q2_;exact zy.mpr ⟨a,vs,rfl,hl,λq=>rl.ownX ho q,hr.weak λa q=>.inl q⟩
 refine wpAny_AugAssign_Name (zdJ rl hv (h o s rl _ _ λu s1 x1 r1=>zwh ha _ _ _ _ (rm0 rl) x1.gd (hrv.step rl.step.g x1 λ_ q=>q) r1 _ _ λw s2 x2 r2=>?_))
 have x:=x1.trans x2
 refine zbs rl x hi hn ((r2.back rl.gd.1 x1).fresh (κ:=.ow) rl) λs' r l g a=>⟨_,r,rfl,(zga.of_step x).trans .refl l.left,zaj nofun,zt.trans x.gens g,(x.aliv rl.step.g).trans a⟩
end
end Mine.Internal
end

noncomputable section
open PySem PySem.Calls PyProof.Rows PySem.SeqAt
namespace Mine.Internal
theorem zgL (its:Array Value) (n:Nat) (f:Array Value→Array Value):∃n',Obj.mapSeq f {cls:=.type "list",data:=.seq its n}={cls:=.type "list",data:=.seq (f its) n'}:=⟨_,rfl⟩
theorem zbK {h:Heap}{l:Addr}{its:Array Value} (f:Array Value→Array Value) (hl:h.PlainList l its):(h.update l (Obj.mapSeq f)).PlainList l (f its):=by
 refine xE hl λn e=>?_;clear hl
 refine xE (zgL its n f) λn' e'=>?_
 exact⟨n',by rw[Heap.get?_update_self _ e (by rw[e'];rfl),e']⟩
section
variable {W:Wd}{c:Cx}{o o1 o2 o':Nat→Option Addr}{ρ ρ1 ρ2 ρ':zc}{s s0 s1 s2 s':Shared}{i:Nat}{nm:Str}{b:B}{d:D}{e:Expr}{p pos pos' apos:Pos}{fl:Fl}{f:Flow}
theorem zcH {xs:List D} (h:zck ρ i=some xs):ρ[i]? = some (some (.mu xs)):=ztC h
noncomputable def zvz (W:Wd) (id:String) (xs ds xs':List D):Prop :=
 ∀(A:Around) (s:Shared) (a:Addr) (vs us:List Value) (X:Addr→Prop),Rm 0 A→s.heap.PlainList a vs.toArray→RVs s.heap X xs vs→RVs s.heap W.X ds us→∀(Q E:Value→Shared→Prop),
  (∀r h' vs',h'.PlainList a (List.toArray vs')→Heap.SameBut a s.heap h'→RVs s.heap X xs' vs'→Q r {s with heap:=h'})→wpAny W.M A (call (.builtin id) (.ref a::us)) Q E s
theorem zlD {es:List Expr}{ds xs xs':List D}{id:String}{name:Str} (m:MtOk name "list" id) (hn:c.ns[i]? = some nm) (hm:zck ρ i=some xs) (hns:ze es=true) (hl:es.length < 30) (hp:(apos.endLine == pos.line)=true)
  (h:EvL W .al c ρ es ds) (hc:zvz W id xs ds xs') :
  Ex1 W c ρ (.Expr (.Call (.Attribute (.Name nm p) name apos) es [] pos) pos') .next (zaU ρ i (.mu xs')):=λo s rl E=>by
 have hρ:=zcH hm
 refine zcv (rl.vars i nm _ hn hρ) λv hv a vs q4_ ho hl' hr=>?_;subst q4_
 refine wpAny_Expr_any ?_ (by unfold interactive;rw[rl.ok.kind];rfl) rfl
 refine zcJ rfl hns hl hp m _ _ (wpAny_Name (zdJ rl hv ⟨(zd hl').typeIs,?_,?_⟩) (rl.ok.dbg nm (List.mem_of_getElem? hn)))
 ·rintro b e;cases e;refine xE hl' λn e=>?_;clear hl';exact⟨_,e,rfl⟩
 ·refine zaE hns h rl λus s1 x1 r1=>?_
  have l1:s1.heap.PlainList a vs.toArray:=zz (rl.ownX ho) x1 hl'
  have rl1:=rl.mono x1
  refine hc c.A s1 a vs us (OX W o) (rm0 rl) l1 (hr.step rl.step.g x1 λ_ q=>.inl q) r1 _ _ λr h' vs' q1 q2 q3=>?_
  exact zlb rl1 hn hρ ho (hv.to (λm h=>zgD rl.step.g x1 h) λ_ _ _ h=>zC rl.step.g x1 h) l1 q1 q2 q3 λD=>Done.of rl x1 D
theorem ztz {xs:List D} (hf:zbp d=true) (hs:xs.length≤2 ^ 20):zvz W "list.append" xs [d] (xs++[d]):=λA s a vs us X hr hl q1 q2 Q E k=>by
 refine zch q2 λv r=>?_
 exact wpAny_list_append_plain hl (λh' p1 p2=>k _ h' (vs++[v]) (by simpa using p1) p2 (q1.append (RVs.one (r.flat hf)))) (by simp only[List.size_toArray,q1.len];exact Nat.le_trans hs (by decide))
theorem zlc:MtOk "append" "list" "list.append":=⟨F.plainAttrs_list,slot_list_append,F.type_list_append⟩
theorem zjm:MtOk "reverse" "list" "list.reverse":=⟨F.plainAttrs_list,F.slot_list_reverse,F.type_list_reverse⟩
theorem ztD:MtOk "pop" "list" "list.pop":=⟨F.plainAttrs_list,F.slot_list_pop,F.type_list_pop⟩
theorem RVs.rev' {h:Heap}{X:Addr→Prop}:∀{ds:List D}{vs:List Value},RVs h X ds vs→RVs h X ds.reverse vs.reverse
 | [],vs,r=>by cases zQ r;exact .nil
 | d::ds,vs,r=>by
  refine zao r λv u r1 r2=>?_
  simp only[List.reverse_cons]
  exact(RVs.rev' r2).append (RVs.one r1)
theorem ztx {xs:List D} (hs:xs.length≤2 ^ 20):zvz W "list.reverse" xs [] xs.reverse:=λA s a vs us X hr hl q1 q2 Q E k=>by
 cases zQ q2
 refine xE (id hl) λn e=>?_
 refine call_meets F.slot_list_reverse (zd hl).typeIs F.entry_list_reverse (F.args_list_reverse_1 _) (AutoListH.list_reverse_list_0 a vs.toArray n (by simp only[List.size_toArray,q1.len];exact Nat.le_trans hs (by decide))) ⟨e,?_⟩
 exact k _ _ vs.reverse (by simpa using zbK (λx=>x.reverse) hl) (Heap.SameBut.update ..) q1.rev'
theorem zty {xs:List D} (h0:xs.isEmpty=false) (hs:xs.length≤2 ^ 20):zvz W "list.pop" xs [] xs.dropLast:=λA s a vs us X hr hl q1 q2 Q E k=>by
 cases zQ q2
 refine xE (id hl) λn e=>?_
 have hlen:vs.length=xs.length:=q1.len
 have hpos:0 < vs.length:=by
  cases xs with
  | nil=>cases h0
  | cons=>rw[hlen];simp
 have hy:vs.toArray[vs.toArray.size - 1]? = some (vs[vs.length - 1]):=by simp
 refine call_meets F.slot_list_pop (zd hl).typeIs F.entry_list_pop (F.args_list_pop_1 _) (MeetsSeq.list_pop_last a vs.toArray n _ hy (by simp only[List.size_toArray,hlen];exact Nat.le_trans hs (by decide))) ⟨e,?_⟩
 have p:=zbK (λxs=>xs.eraseIdxIfInBounds (vs.toArray.size - 1)) hl
 refine k _ _ vs.dropLast ?_ (Heap.SameBut.update ..) ?_
 ·have:vs.toArray.eraseIdxIfInBounds (vs.toArray.size - 1)=vs.dropLast.toArray:=by
   unfold Array.eraseIdxIfInBounds
   rw[dif_pos (by simp;omega)]
   simp[List.dropLast_eq_take]
  rw[← this];exact p
 ·rw[List.dropLast_eq_take,List.dropLast_eq_take,hlen];exact q1.take _
theorem RVs.set {h:Heap}{X:Addr→Prop}:∀{ds:List D}{vs:List Value} (j:Nat) {d:D}{v:Value},RVs h X ds vs→RV h X d v→RVs h X (ds.set j d) (vs.set j v)
 | [],vs,j,d,v,r,_=>by cases zQ r;exact .nil
 | e::ds,vs,j,d,v,r,q=>by
  refine zao r λu us r1 r2=>?_
  cases j with
  | zero=>exact .cons q r2
  | succ j=>exact .cons r1 (RVs.set j r2 q)
theorem zqI {xs xs':List D}{ix:Expr}{k:Int} (hn:c.ns[i]? = some nm) (h1:Ev W .al c ρ e d) (hf:zbp d=true) (hm:zck ρ i=some xs) (h2:Ev W .al c ρ ix (.int k)) (hx:zeH xs k d=some xs') (hl2:xs.length≤2 ^ 20)
  (hs:swapsWith e (some (.Subscript (.Name nm p) ix pos')) pos.line c.env=pure false):Ex1 W c ρ (.Assign [.Subscript (.Name nm p) ix pos'] e pos) .next (zaU ρ i (.mu xs')):=λo s rl E=>by
 have hρ:=zcH hm
 refine wpAny_Assign_Subscript (h1 o s rl _ _ λv s1 x1 r1=>?_) hs
 have rl1:=rl.mono x1
 refine zcv (rl1.vars i nm _ hn hρ) λw hv a vs q4_ ho hl hr=>?_;subst q4_
 refine wpAny_Name (zdJ rl1 hv (h2 o s1 rl1 _ _ λu s2 x2 r2=>?_)) (rl.ok.dbg nm (List.mem_of_getElem? hn))
 refine zW r2 λt=>?_
 have rl2:=rl1.mono x2
 have l2:s2.heap.PlainList a vs.toArray:=zz (rl.ownX ho) x2 hl
 have hr2:=hr.step x1.g x2 λ_ q=>.inl q
 have rv2:RV s2.heap (OX W o) d v:=(r1.step x1.g x2 λ_ q=>q).flat hf
 have hv2:=hv.to (λm h=>zgD x1.g x2 h) λ_ _ _ h=>zC x1.g x2 h
 have hlen:=hr.len
 refine xE (id l2) λn e0=>?_
 have fin:∀j:Nat,j < xs.length→xs'=xs.set j d→Done W c o s .next (zaU ρ i (.mu xs')) .next {s2 with heap:=s2.heap.update a (Obj.mapSeq (·.setIfInBounds j v))}:=λj hj e=>by
  have p:=zbK (·.setIfInBounds j v) l2
  exact zlb (vs':=vs.set j v) rl2 hn hρ ho hv2 l2 (by simpa using p) (Heap.SameBut.update ..) (e▸hr2.set j rv2) λD=>Done.of rl x1 (Done.of rl1 x2 D)
 unfold zeH at hx
 split at hx
 ·rename_i h0
  split at hx
  ·rename_i hlt
   cases hx
   exact PySem.W.ki_setAt e0 h0 (by omega) (by simp only[List.size_toArray];omega) (fin _ hlt rfl)
  ·cases hx
 ·rename_i h0
  split at hx
  ·rename_i hlt
   cases hx
   exact PySem.W.ki_setBack e0 (by omega) (by simp only[List.size_toArray];omega) (by omega) (by
    have:=fin (k+xs.length).toNat (by omega) rfl
    simpa [hlen] using this)
  ·cases hx
end
end Mine.Internal
end

noncomputable section
open PySem PySem.Calls PyProof.Rows PySem.SeqAt
namespace Mine.Internal
section
variable {W:Wd}{c:Cx}{o o1 o2 o':Nat→Option Addr}{ρ ρ1 ρ2 ρ':zc}{s s0 s1 s2 s':Shared}{i:Nat}{nm:Str}{b:B}{d:D}{e:Expr}{p pos pos' apos:Pos}{fl:Fl}{f:Flow}{st:Stmt}{ss:List Stmt}
theorem zlC:Ex W c ρ [] .next ρ:=λo s rl E=>wpAny_execs_nil (Done.of_stp rl rl.gd.refl)
theorem znC {h:Heap} (hf:FlR W c h fl f) (hn:fl≠.next):f≠.next:=by
 cases fl with
 | next=>exact absurd rfl hn
 | brk=>simp only[zqE]at hf;rw[hf];exact nofun
 | ret d=>refine xEA hf λv h _=>?_;clear hf;rw[h];exact nofun
theorem zdL (h1:Ex1 W c ρ st .next ρ1) (h2:Ex W c ρ1 ss fl ρ2):Ex W c ρ (st::ss) fl ρ2:=λo s rl E =>
 wpAny_execs_cons (wpAny_mono (h1 o s rl E) (λf s1 D=>by
  have hf:f = .next:=D.flr
  subst hf
  obtain⟨o1,r1,f0,l1,n1,g1,a1⟩:=id D
  exact wpAny_mono (h2 o1 s1 r1 E) (λf2 s2 D2=>by
   obtain⟨o2,r2,f2,l2,n2,g2,a2⟩:=D2
   exact⟨o2,r2,f2,l1.trans n1 l2,n1.trans n2 a1,g1.trans g2,a1.trans a2⟩) λ_ _ x=>x) λ_ _ x=>x)
theorem zaY (h1:Ex1 W c ρ st fl ρ1) (hn:fl≠.next):Ex W c ρ (st::ss) fl ρ1:=λo s rl E =>
 wpAny_execs_cons (wpAny_mono (h1 o s rl E) (λf s1 D=>by
  have:=znC D.flr hn
  cases f<;>first
   | exact absurd rfl this
   | exact D) λ_ _ x=>x)
theorem zfk (h:Ev W .ba c ρ e d):Ex1 W c ρ (.Return (some e) pos) (.ret d) ρ:=λo s rl E =>
 wpAny_Return_some (h o s rl _ _ λv s1 x1 r1=>by
  obtain⟨o2,r2,_,q1,q2,q3,q4⟩:=Done.of_stp rl x1
  exact⟨o2,r2,⟨v,rfl,r1⟩,q1,q2,q3,q4⟩)
theorem zqJ:Ex1 W c ρ (.Return none pos) (.ret .none) ρ:=λo s rl E =>
 wpAny_Return_none (by
  obtain⟨o2,r2,_,q1,q2,q3,q4⟩:=Done.of_stp rl rl.gd.refl
  exact⟨o2,r2,⟨_,rfl,rfl⟩,q1,q2,q3,q4⟩)
theorem zlE {t:Bool}{a b:List Stmt} (h:EvT W c ρ e t) (h1:t=true→Ex W c ρ a fl ρ') (h2:t=false→Ex W c ρ b fl ρ'):Ex1 W c ρ (.If e a b pos) fl ρ':=λo s rl E =>
 wpAny_If (h o s rl _ _ λs1 x1=>by
  cases t with
  | true=>exact wpAny_mono (h1 rfl o s1 (rl.mono x1) E) (λf s2 D=>Done.of rl x1 D) λ_ _ x=>x
  | false=>exact wpAny_mono (h2 rfl o s1 (rl.mono x1) E) (λf s2 D=>Done.of rl x1 D) λ_ _ x=>x)
structure Since (W:Wd) (c:Cx) (o:Nat→Option Addr) (s:Shared) (o1:Nat→Option Addr) (ρ1:zc) (s1:Shared):Prop where
 rel:Rel W c o1 ρ1 s1
 left:zga W c o s s1
 own:zbC o o1 s
 gens:zt s s1
 alive:zca s s1
theorem Since.done (x:Since W c o s o1 ρ1 s1) (D:Done W c o1 s1 fl ρ2 f s2):Done W c o s fl ρ2 f s2:=by
 obtain⟨o2,r2,f2,l2,n2,g2,a2⟩:=D
 exact⟨o2,r2,f2,x.left.trans x.own l2,x.own.trans n2 x.alive,x.gens.trans g2,x.alive.trans a2⟩
theorem Done.since (D:Done W c o s fl ρ1 f s1):∃o1,Since W c o s o1 ρ1 s1∧FlR W c s1.heap fl f:=by
 obtain⟨o2,r2,f2,l2,n2,g2,a2⟩:=D
 exact⟨o2,⟨r2,l2,n2,g2,a2⟩,f2⟩
theorem zuf {test:zc→Option Bool}{run:zc→Option (Fl×zc)}{body:List Stmt}{N:Nat} (ht:∀ρ1 t,test ρ1=some t→EvT W c ρ1 e t) (hb:∀ρ1 fl ρ2,run ρ1=some (fl,ρ2)→Ex W c ρ1 body fl ρ2)
  (h:zjN test run N ρ=some (fl,ρ')):Ex1 W c ρ (.While e body [] pos) fl ρ':=λo s rl E=>by
 refine wpAny_While (codeAny_whileLoop (λn s1=>∃o1 ρ1,Since W c o s o1 ρ1 s1∧zjN test run n ρ1=some (fl,ρ')) (λn s1 hI=>?_) N ⟨o,ρ,⟨rl,.refl,.refl,λ_ _ e=>e,λ_ h=>h⟩,h⟩)
 refine zav hI λo1 ρ1 S hw=>?_;clear hI
 cases n with
 | zero=>exact zl hw
 | succ n =>
  refine zf (zvK.symm.trans hw) λt hq hw=>?_
  ·refine ht ρ1 t hq o1 s1 S.rel _ _ λs2 x2=>?_
   cases t with
   | false =>
    refine xA (Prod.mk.inj (Option.some.inj (show some (Fl.next,ρ1)=some (fl,ρ') from hw))) λq0_ q1_=>?_;clear hw;subst q0_;subst q1_
    exact wpAny_execs_nil (S.done (Done.of_stp S.rel x2))
   | true =>
    refine zf (show(run ρ1).bind (λx=>goL x (zjN test run n))=some (fl,ρ') from hw) λr hr hw=>?_
    ·obtain⟨fl1,ρ2⟩:=r
     refine wpAny_mono (hb ρ1 fl1 ρ2 hr o1 s2 (S.rel.mono x2) _) (λf s3 D=>?_) λ_ _ x=>x
     have D1:=Done.of S.rel x2 D
     have D0:=S.done D1
     refine xEA D0.since λo3 S3 hf=>?_
     cases fl1 with
     | next =>
      simp only[zeM]at hf;subst hf
      exact⟨n,Nat.lt_succ_self n,o3,ρ2,S3,hw⟩
     | brk =>
      refine xA (Prod.mk.inj (Option.some.inj hw)) λq0_ q1_=>?_;clear hw;subst q0_;subst q1_
      simp only[zqE]at hf;subst hf
      obtain⟨o4,r4,_,q1,q2,q3,q4⟩:=D0
      exact⟨o4,r4,rfl,q1,q2,q3,q4⟩
     | ret d =>
      refine xA (Prod.mk.inj (Option.some.inj hw)) λq0_ q1_=>?_;clear hw;subst q0_;subst q1_
      refine xEA (id hf) λv q1_ _=>?_;subst q1_
      exact D0
end
end Mine.Internal
end

noncomputable section
open PySem PySem.Calls PyProof.Rows PySem.SeqAt
namespace Mine.Internal
section
variable {W:Wd}{c:Cx}{o o1 o2 o':Nat→Option Addr}{ρ ρ1 ρ2 ρ':zc}{s s0 s1 s2 s':Shared}{i:Nat}{nm:Str}{b:B}{d:D}{e:Expr}{p pos pos' apos:Pos}{fl:Fl}{f:Flow}{st:Stmt}{ss:List Stmt}
theorem Since.nx {wr:Addr→Prop}{wg:Nat→Prop} (S:Since W c o s o1 ρ1 s1) (r0:Rel W c o ρ s) (n:Nx W wr wg s1 s2) (h1:∀b,wr b→s.heap.get? b=none) (h2:∀i,wg i→s.gens[i]? = none)
  (h3:∀b,wr b→b≠c.env.locals) (h4:∀b,wr b→∀x k,c.env.cells.lookup x=some k→b≠k):Since W c o s o1 ρ1 s2:=by
 have rl:=S.rel
 have seqs:∀b ob,s1.heap.get? b=some ob→(ob.cls = .type "list"∨ob.cls = .type "tuple")→(∃xs n,ob.data = .seq xs n)→¬W.X b→s2.heap.get? b=some ob:=λb ob e hc hd nx=>n.evo b ob e nx λq=>(n.cls b ob q e).seq hc hd
 have loc:∀m,s1.heap.Ns c.env.locals m→s2.heap.Ns c.env.locals m:=by
  rintro m ⟨ob,es,ep,ho,hd,r⟩
  exact⟨ob,es,ep,n.evo _ _ ho (λq=>(W.xcls rl.step.g q ho).2.1 _ _ hd) (λq=>h3 _ q rfl),hd,r⟩
 have cell:∀x k v,c.env.cells.lookup x=some k→s1.heap.IsCell k v→s2.heap.IsCell k v:=by
  rintro x k v hx ⟨ob,ho,hd⟩
  exact⟨ob,n.evo _ _ ho (λq=>(W.xcls rl.step.g q ho).2.2 _ hd) (λq=>h4 _ q x k hx rfl),hd⟩
 have var:∀x v,Var c.env s1.heap x v→Var c.env s2.heap x v:=by
  rintro x v (⟨hk,m,hm,hx⟩ | ⟨hk,k,hl,hx⟩)
  ·exact .inl ⟨hk,m,loc m hm,hx⟩
  ·exact .inr ⟨hk,k,hl,cell x k _ hl hx⟩
 have kRV:∀b ob,s1.heap.get? b=some ob→(ob.cls = .type "list"∧¬OX W o1 b∧∃xs n,ob.data = .seq xs n)∨(ob.cls = .type "tuple"∧∃xs n,ob.data = .seq xs n)→s2.heap.get? b=some ob:=by
  rintro b ob e (⟨hc,hx,hd⟩ | ⟨hc,hd⟩)
  ·exact seqs b ob e (.inl hc) hd λq=>hx (.inl q)
  ·exact seqs b ob e (.inr hc) hd λq=>(W.xcls rl.step.g q e).1 hc
 have kown:∀i a vs,o1 i=some a→s1.heap.PlainList a vs→s2.heap.PlainList a vs:=by
  rintro i a vs e ⟨m,ho⟩
  exact⟨m,seqs _ _ ho (.inl rfl) ⟨_,_,rfl⟩ (rl.ownX e)⟩
 refine⟨⟨rl.ok,⟨λb ob e nx=>n.evo b ob (rl.step.evo b ob e nx) nx λq=>?_,n.g,n.os.trans rl.step.os,λi g e=>?_,n.bare,Nat.le_trans rl.step.toks n.toks⟩,let ⟨m,h⟩:=rl.loc;⟨m,loc m h⟩,
  λx k e=>let ⟨v,h⟩:=rl.cel x k e;⟨v,cell x k v e h⟩,λi x b q1 q2=>?_,λi a e=>let ⟨q,vs,h⟩:=rl.own i a e;⟨q,vs,kown i a vs e h⟩,rl.inj⟩,λb ob e q1 q2 q3 q4=>?_,S.own,λi g e=>?_,λa h=>?_⟩
 ·have:=zdl r0 (a:=b) (by rw[e];exact nofun)
  exact this (h1 b q)
 ·refine n.gens i g (λq=>?_) (rl.step.gens i g e)
  have:=r0.step.gens i g e
  rw[h2 i q]at this;cases this
 ·refine xEA (rl.vars i x b q1 q2) λv hv hb=>?_
  refine⟨v,var x v hv,?_⟩
  cases b with
  | fz d=>exact RV.to kRV (λ_ q=>.inl q) hb
  | mu xs=>refine zar hb λa vs e1 e2 e3 e4=>?_;clear hb;exact⟨a,vs,e1,e2,kown i a _ e2 e3,RVs.to kRV (λ_ q=>.inl q) e4⟩
 ·exact n.evo b ob (S.left b ob e q1 q2 q3 q4) q4 λq=>by rw[h1 b q]at e;cases e
 ·exact n.gens i g (λq=>by rw[h2 i q]at e;cases e) (S.gens i g e)
 ·by_cases hx:W.X a
  ·exact W.sy n.g (W.xsy _ hx)
  ·have h':=S.alive a h
   cases q:s1.heap.get? a with
   | none=>exact absurd q h'
   | some ob=>rw[n.evo a ob q hx λq=>h (h1 a q)];exact nofun
noncomputable def zmm (c:Cx) (t:Expr) (n:Nat) (is:List Nat):Prop :=
 (n=0∧∃nm p i,t = .Name nm p∧is=[i]∧i < c.no∧c.ns[i]? = some nm)∨(n≠0∧∃ts k p,t = .Tuple ts k p∧zrm c ts is)
theorem zks {t:Expr}{n:Nat}{is:List Nat}{ds:List D}{v:Value} (rl:Rel W c o ρ s) (ht:zmm c t n is) (h1:zfW n d=some ds) (h2:zal ρ is ds=some ρ') (r:RV s.heap W.X d v) {Q:Unit→Shared→Prop}{E:Value→Shared→Prop}
  (k:∀s',Done W c o s .next ρ' .next s'→Q () s'):wpAny W.M c.A (assign t c.env v) Q E s:=by
 rcases ht with ⟨rfl,nm,p,i,rfl,rfl,hi,hn⟩ | ⟨hn,ts,kk,p,rfl,ht⟩
 ·have:ds=[d]:=zp h1
  subst this
  have hf:=zak h2
  simp only[zmr,zde,Bool.and_true]at hf
  simp only[zrx,znR,hf,if_true,Option.some.injEq]at h2
  subst h2
  exact PyProof.Rows.assign_Name (zbs rl rl.gd.refl hi hn (r.flat hf) λs' r l g a=>k s' ⟨_,r,rfl,l.left,zaj nofun,g,a⟩)
 ·cases n with
  | zero=>exact absurd rfl hn
  | succ n =>
   refine xEA (zcE h1) λxs q_ h1=>?_
   subst q_
   refine zay h1 λ_ h1=>?_
   cases h1
   exact zgh (k:=0) rl ht h2 r k
inductive ForI (W:Wd) (c:Cx) (o:Nat→Option Addr) (s:Shared) (St:(Addr→Prop)→(Addr→Prop)→List D→Shared→Prop) (run:zc→Option (Fl×zc)) (n:Nat) (is:List Nat) (fl:Fl) (ρ':zc) (m:Nat) (s1:Shared):Prop
 | mk (fp wr:Addr→Prop) (ds:List D) (o1:Nat→Option Addr) (ρ1:zc) (hm:ds.length=m) (S:Since W c o s o1 ρ1 s1) (hSt:St fp wr ds s1) (hown:∀i a,o1 i=some a→¬fp a) (hw:∀b,wr b→s.heap.get? b=none)
  (ha:∀b,fp b→¬W.X b∧b≠c.env.locals∧∀x k,c.env.cells.lookup x=some k→b≠k) (hf:zjy n is run ds ρ1=some (fl,ρ')):ForI W c o s St run n is fl ρ' m s1
theorem zui {n:Nat}{is:List Nat}{run:zc→Option (Fl×zc)}{body:List Stmt}{t src:Expr}{items:List D}{pr:Bool} (hs:EvS W true c ρ src pr items) (ht:zmm c t n is) (hp:pr=true∨zcL t=true)
  (hb:∀ρ1 fl ρ2,run ρ1=some (fl,ρ2)→Ex W c ρ1 body fl ρ2) (h:zjy n is run items ρ=some (fl,ρ')) (hfs:∀x,foldedSetIterable src c.env x=pure x):Ex1 W c ρ (.For t src body [] pos) fl ρ':=λo s rl E=>by
 refine wpAny_For (hs o s rl _ _ λit s2 src=>?_) hfs
 obtain⟨⟨fp,wr,wg,St,I,hst,hw,hg,ha⟩,x⟩:=src
 refine codeAny_forLoop_any (λm s1=>ForI W c o s St run n is fl ρ' m s1) (λm s1 hI=>?_) items.length
  ⟨fp,wr,items,o,ρ,rfl,⟨rl.mono x,zga.of_step x,.refl,x.gens,λa h=>x.alive rl.step.g h⟩,hst,λi a e q=>(ha a q).2.2.2 rfl i e,hw,λb q=>⟨(ha b q).1,(ha b q).2.1,(ha b q).2.2.1⟩,h⟩
 obtain⟨fp,wr,ds,o1,ρ1,hm,S,hSt,hown,hw,ha,hf⟩:=hI
 have htk:W.tk0≤s1.toks:=Nat.le_trans S.rel.ok.toks S.rel.step.toks
 have hwl:∀b,wr b→b≠c.env.locals:=λb q=>(ha b (I.sub hSt b q)).2.1
 have hwc:∀b,wr b→∀x k,c.env.cells.lookup x=some k→b≠k:=λb q=>(ha b (I.sub hSt b q)).2.2
 cases ds with
 | nil =>
  refine I.done hSt S.rel.gd htk S.alive λs3 wr' hwr' hn=>?_
  have hw':∀b,wr' b→s.heap.get? b=none:=λb q=>(hwr' b q).elim (hw b) λq=>q.1
  have hl':∀b,wr' b→b≠c.env.locals∧∀x k,c.env.cells.lookup x=some k→b≠k:=λb q=>(hwr' b q).elim (λq=>⟨hwl b q,hwc b q⟩) λq=>by
   refine zeR (zam rl.step.g S.rel q) λa1 a2 a3 _=>?_
   exact⟨a2,a3⟩
  refine xA (Prod.mk.inj (Option.some.inj hf)) λq0_ q1_=>?_;clear hf;subst q0_;subst q1_
  have S3:=S.nx rl hn hw' hg (λb q=>(hl' b q).1) λb q=>(hl' b q).2
  exact wpAny_execs_nil (S3.done (Done.of_stp S3.rel S3.rel.gd.refl))
 | cons d ds =>
  refine I.item hSt S.rel.gd htk S.alive λv s3 fp' wr' wn hSt3 hfp' hwr' hwn hr hn=>?_
  have hw':∀b,wr' b→s.heap.get? b=none:=λb q=>(hwr' b q).elim (hw b) λq=>q.1
  have ha':∀b,fp' b→¬W.X b∧b≠c.env.locals∧∀x k,c.env.cells.lookup x=some k→b≠k:=λb q=>(hfp' b q).elim (ha b) λq=>by
   refine zeR (zam rl.step.g S.rel q) λa1 a2 a3 _=>?_
   exact⟨a1,a2,a3⟩
  have hl':∀b,wn b→b≠c.env.locals∧∀x k,c.env.cells.lookup x=some k→b≠k:=λb q=>(hwn b q).elim (λq=>⟨hwl b q,hwc b q⟩) λq=>by
   refine zeR (zam rl.step.g S.rel q) λa1 a2 a3 _=>?_
   exact⟨a2,a3⟩
  have S3:=S.nx rl hn (λb q=>(hwn b q).elim (hw b) λq=>q.1) hg (λb q=>(hl' b q).1) λb q=>(hl' b q).2
  have hown':∀i a,o1 i=some a→¬fp' a:=λi a e q=>(hfp' a q).elim (hown i a e) λq=>(zam rl.step.g S.rel q).2.2.2 i e
  refine zf (zua.symm.trans hf) λxs hq hf=>?_
  refine zf hf λρ2 hq2 hf=>?_
  ··refine I.letgo (hp.imp id id) hSt3 (zks S3.rel ht hq hq2 hr λs4 D4=>?_)
    refine xEA D4.since λo4 S4 _=>?_
    have fr:∀{o5 o6:Nat→Option Addr}{ρ6:zc}{s5 s6:Shared}{es:List D},(∀i a,o5 i=some a→¬fp' a)→St fp' wr' es s5→Since W c o5 s5 o6 ρ6 s6→St fp' wr' es s6∧∀i a,o6 i=some a→¬fp' a:=by
     intro o5 o6 ρ6 s5 s6 es q1 q2 q3
     refine⟨I.frame q2 (λb ob hb e=>?_) λi g _ e=>q3.gens i g e,λi a e hb=>?_⟩
     ·refine xAA (ha' b hb) λa1 a2 a3=>?_
      exact q3.left b ob e a2 a3 (λi q=>q1 i b q hb) a1
     ·rcases q3.own i a e with ⟨j,q⟩ | q
      ·exact q1 j a q hb
      ·exact I.alive q2 hb q
    refine xA (fr hown' hSt3 S4) λhSt4 hown4=>?_
    refine zf hf λr hr2 hf=>?_
    ·obtain⟨fl1,ρ3⟩:=r
     refine wpAny_mono (hb ρ2 fl1 ρ3 hr2 o4 s4 S4.rel _) (λf s5 D5=>?_) λ_ _ x=>x
     have D0:Done W c o s fl1 ρ3 f s5:=S3.done (S4.done D5)
     refine xEA D5.since λo5 S5 _=>?_
     refine xA (fr hown4 hSt4 S5) λhSt5 hown5=>?_
     have S50:Since W c o s o5 ρ3 s5:=⟨S5.rel,(S3.left.trans S3.own S4.left).trans (S3.own.trans S4.own S3.alive) S5.left,(S3.own.trans S4.own S3.alive).trans S5.own (S3.alive.trans S4.alive),(S3.gens.trans S4.gens).trans S5.gens,(S3.alive.trans S4.alive).trans S5.alive⟩
     have hf5:=D0.flr
     cases fl1 with
     | next =>
      simp only[zeM]at hf5;subst hf5
      exact⟨ds.length,by simp only[List.length_cons]at hm;omega,fp',wr',ds,o5,ρ3,rfl,S50,hSt5,hown5,hw',ha',hf⟩
     | brk =>
      refine xA (Prod.mk.inj (Option.some.inj hf)) λq0_ q1_=>?_;clear hf;subst q0_;subst q1_
      simp only[zqE]at hf5;subst hf5
      obtain⟨o6,r6,_,q1,q2,q3,q4⟩:=D0
      exact⟨o6,r6,rfl,q1,q2,q3,q4⟩
     | ret d =>
      refine xA (Prod.mk.inj (Option.some.inj hf)) λq0_ q1_=>?_;clear hf;subst q0_;subst q1_
      refine xEA (id hf5) λv q1_ _=>?_;subst q1_
      exact D0
theorem Rel.frz (rl:Rel W c o ρ s) {xs:List D} (hn:c.ns[i]? = some nm) (h:ρ[i]? = some (some (.mu xs))):Rel W c (upd o i none) (ρ.set i (some (.fz (.list xs)))) s:=by
 refine zcv (rl.vars i nm _ hn h) λv hv a vs q4_ ho hl hr=>?_;subst q4_
 have hX:∀b,OX W (upd o i none) b→OX W o b:=by
  rintro b (q | ⟨j,q⟩)
  ·exact .inl q
  ·by_cases hj:j=i
   ·subst hj;rw[zan]at q;cases q
   ·rw[zcy hj]at q;exact .inr ⟨j,q⟩
 refine rl.put (b:=.fz (.list xs)) hn rl.step rl.loc rl.cel ⟨_,hv,zy.mpr ⟨a,vs,rfl,hl,?_,hr.weak hX⟩⟩ (λ_ _ _ _ _ h=>h) (λj hj=>zcy hj) (λ_ _ e _ _ _=>e) (λb e=>by rw[zan]at e;cases e)
 rintro(q | ⟨j,q⟩)
 ·exact rl.ownX ho q
 ·by_cases hj:j=i
  ·subst hj;rw[zan]at q;cases q
  ·rw[zcy hj]at q;exact hj (rl.inj j i a q ho)
end
end Mine.Internal
end

noncomputable section
open PySem PySem.Calls PyProof.Rows PySem.SeqAt
namespace Mine.Internal
theorem zbB:∀(names:List (Str×NameKind)) (n:Nat) (a b:List (Str×Addr)),cellsFrom n names (a++b)=cellsFrom n names a++b
 | [],_,_,_=>rfl
 | (x,k)::r,n,a,b=>by
  unfold cellsFrom
  split
  ·exact zbB r (n+1) ((x,n)::a) b
  ·exact zbB r n a b
theorem zaD:∀(names:List (Str×NameKind)) (n:Nat) (a:List (Str×Addr)) (x:Str) (k:Addr),(x,k)∈cellsFrom n names a→(n≤k∧(x,NameKind.cell)∈names)∨(x,k)∈a
 | [],_,_,_,_,h=>.inr h
 | (y,kd)::r,n,a,x,k,h=>by
  unfold cellsFrom at h
  split at h
  ·rename_i hk
   rcases zaD r (n+1) ((y,n)::a) x k h with ⟨h1,h2⟩ | h
   ·exact .inl ⟨(Nat.le_of_lt h1),List.mem_cons_of_mem _ h2⟩
   ·rcases List.mem_cons.mp h with e | h
    ·cases e
     have:kd = .cell:=by simpa using hk
     subst this
     exact .inl ⟨Nat.le_refl _,List.mem_cons_self⟩
    ·exact .inr h
  ·rcases zaD r n a x k h with ⟨h1,h2⟩ | h
   ·exact .inl ⟨h1,List.mem_cons_of_mem _ h2⟩
   ·exact .inr h
theorem zG {α:Type}:∀{l:List (Str×α)}{x:Str}{k:α},(x,k)∈l→(l.lookup x).isSome=true
 | (y,u)::r,x,k,h=>by
  rw[List.lookup_cons]
  cases hq:x == y with
  | true=>rfl
  | false =>
   rcases List.mem_cons.mp h with e | h
   ·cases e;simp at hq
   ·exact zG h
theorem zaq:∀(names:List (Str×NameKind)) (n:Nat) (a:List (Str×Addr)) (x:Str) (k:Addr),(x,k)∈a→(x,k)∈cellsFrom n names a
 | [],_,_,_,_,h=>h
 | (y,kd)::r,n,a,x,k,h=>by
  unfold cellsFrom
  split
  ·exact zaq r (n+1) _ x k (List.mem_cons_of_mem _ h)
  ·exact zaq r n a x k h
theorem zK:∀(names:List (Str×NameKind)) (n:Nat) (a:List (Str×Addr)) (x:Str),(x,NameKind.cell)∈names→((cellsFrom n names a).lookup x).isSome=true
 | (y,kd)::r,n,a,x,h=>by
  unfold cellsFrom
  rcases List.mem_cons.mp h with e | h
  ·cases e
   rw[if_pos (by rfl)]
   exact zG (zaq r (n+1) _ _ n List.mem_cons_self)
  ·split
   ·exact zK r (n+1) _ x h
   ·exact zK r n a x h
noncomputable def zaQ (env:Env):List (Str×NameKind)→List (Str×Addr)→List (Str×Addr)
 | [],acc=>acc
 | (x,k)::r,acc=>zaQ env r (if k == .free then(x,(env.cells.lookup x).getD 0)::acc else acc)
theorem zbA {scope:Scope}{env:Env} (h:∀x,(x,NameKind.free)∈scope.names→(env.cells.lookup x).isSome=true):closureFor scope env=pure (zaQ env scope.names []):=by
 unfold closureFor
 have key:∀(names:List (Str×NameKind)) (acc:List (Str×Addr)),(∀x,(x,NameKind.free)∈names→(env.cells.lookup x).isSome=true) →
   (forIn names acc λ(x:Str×NameKind) (r:List (Str×Addr))=>(match x with
    | (name,kind)=>if (kind == NameKind.free)=true then do let __do_lift ← cellOf env name;pure (ForInStep.yield ((name,__do_lift)::r)) else pure (ForInStep.yield r):Sem (ForInStep (List (Str×Addr)))))=pure (zaQ env names acc):=by
  intro names
  induction names with
  | nil=>intro acc _;rfl
  | cons y r ih =>
   intro acc hk
   obtain⟨x,k⟩:=y
   rw[List.forIn_cons]
   unfold zaQ
   by_cases hf:(k == NameKind.free)=true
   ·have hk':k = .free:=by simpa using hf
    subst hk'
    refine xE (Option.isSome_iff_exists.mp (hk x List.mem_cons_self)) λa ha=>?_
    have hc:cellOf env x=pure a:=by unfold cellOf;rw[ha]
    simp only[hf,if_true,hc,pure_bind,ha,Option.getD_some]
    exact ih _ λz hz=>hk z (List.mem_cons_of_mem _ hz)
   ·simp only[hf]
    exact ih _ λz hz=>hk z (List.mem_cons_of_mem _ hz)
 have:=key scope.names [] h
 simp only[bind_pure]
 exact this
theorem zdj {env:Env}:∀(names:List (Str×NameKind)) (acc:List (Str×Addr)),(∀x,(x,NameKind.free)∈names→(env.cells.lookup x).isSome=true)→∀x k,(x,k)∈zaQ env names acc→((x,NameKind.free)∈names∧env.cells.lookup x=some k)∨(x,k)∈acc
 | [],_,_,_,_,h=>.inr h
 | (y,kd)::r,acc,hk,x,k,h=>by
  unfold zaQ at h
  rcases zdj r _ (λz hz=>hk z (List.mem_cons_of_mem _ hz)) x k h with ⟨h1,h2⟩ | h
  ·exact .inl ⟨List.mem_cons_of_mem _ h1,h2⟩
  ·by_cases hf:(kd == NameKind.free)=true
   ·have hf':kd = .free:=by simpa using hf
    subst hf'
    rw[if_pos (by rfl)]at h
    rcases List.mem_cons.mp h with e | h
    ·cases e
     refine xE (Option.isSome_iff_exists.mp (hk _ List.mem_cons_self)) λa ha=>?_
     exact .inl ⟨List.mem_cons_self,by rw[ha];rfl⟩
    ·exact .inr h
   ·rw[if_neg hf]at h;exact .inr h
theorem zet {env:Env}:∀(names:List (Str×NameKind)) (acc:List (Str×Addr)) (x:Str) (k:Addr),(x,k)∈acc→(x,k)∈zaQ env names acc
 | [],_,_,_,h=>h
 | (y,kd)::r,acc,x,k,h=>by
  unfold zaQ
  refine zet r _ x k ?_
  split
  ·exact List.mem_cons_of_mem _ h
  ·exact h
theorem zfq {env:Env}:∀(names:List (Str×NameKind)) (acc:List (Str×Addr)) (x:Str),(x,NameKind.free)∈names→∃k,(x,k)∈zaQ env names acc
 | (y,kd)::r,acc,x,h=>by
  unfold zaQ
  rcases List.mem_cons.mp h with e | h
  ·cases e
   exact⟨_,zet r _ _ _ (by rw[if_pos (by rfl)];exact List.mem_cons_self)⟩
  ·exact zfq r _ x h
theorem zB {α:Type}:∀{l:List (Str×α)}{x:Str}{a b:α},(l.map (·.1)).Nodup→(x,a)∈l→(x,b)∈l→a=b
 | (y,u)::r,x,a,b,hn,h1,h2=>by
  simp only[List.map_cons,List.nodup_cons]at hn
  rcases List.mem_cons.mp h1 with e1 | h1<;>rcases List.mem_cons.mp h2 with e2 | h2
  ·cases e1;cases e2;rfl
  ·cases e1;exact absurd (List.mem_map.mpr ⟨_,h2,rfl⟩) hn.1
  ·cases e2;exact absurd (List.mem_map.mpr ⟨_,h1,rfl⟩) hn.1
  ·exact zB hn.2 h1 h2
theorem zag {α:Type}{l:List (Str×α)}{x:Str}{a:α} (hn:(l.map (·.1)).Nodup) (h:(x,a)∈l):l.lookup x=some a:=by
 refine xE (Option.isSome_iff_exists.mp (zG h)) λb hb=>?_
 rw[hb,zB hn h (mem_of_lookup hb)]
section
variable {prog:Program}{w:World}{A:Around}{E:Value→Shared→Prop}{s:Shared}
theorem zhx {scope:Scope}{globals:Addr}{cl:List (Str×Addr)}{qual:Str}{env:Env}{Q:Env→Shared→Prop}
  (hQ:Q (newEnv scope s.heap.objs.size globals (cellsFrom (s.heap.objs.size+1) scope.names cl) qual none .none (some env) builtinsNs) {s with heap:=pushCells (s.heap.push {cls:=.type "dict",data:=.dict #[]}) scope.names}) :
  wpAny (model prog w) A (newFunctionEnv scope globals cl [] qual none .none (some env)) Q E s:=by
 simp only[newFunctionEnv,Option.isSome_some,if_true]
 refine wpAny_bind (wpAny_alloc ?_)
 refine wpAny_bind (wpAny_layCells _ (λname kind cells=>by cases hkc:kind == NameKind.cell<;>simp) _ _ _ _ ?_)
 rw[show({s with heap:=s.heap.push {cls:=.type "dict",data:=.dict #[]}}:Shared).heap.objs.size=s.heap.objs.size+1 from Heap.size_push ..]
 refine wpAny_bind ?_
 rw[List.forIn_nil]
 exact wpAny_pure (wpAny_pure hQ)
theorem zgS {R:Result→Shared→Prop}{elt target iter:Expr}{ifs:List Expr}{scope:Scope}{pos:Pos}{it acc:Value}{env:Env} (I:Nat→Shared→Prop)
  (turn:∀n s,I n s→∀E:Value→Shared→Prop,wpAny (model prog w) A (pyNext it) (λr s₁=>match r with
   | none=>R (.ok .next) s₁
   | some v=>wpAny (model prog w) A (letOwnedTupleGo target it v) (λ_ s₁'=>wpAny (model prog w) A (assign target env v) (λ_ s₂ =>
     wpAny (model prog w) A (forIn ifs true λc r=>if r=true then do let ok ← isTrue c env (eval c env);pure (ForInStep.yield ok) else pure (ForInStep.yield r)) (λok s₃ =>
      if ok=true then wpAny (model prog w) A (eval elt env) (λx s₄ =>
       wpAny (model prog w) A (call (.builtin "list.append") [acc,x]) (λ_ s₅=>∃m,m < n∧I m s₅) E s₄) E s₃
      else ∃m,m < n∧I m s₃) E s₂) E s₁') E s₁) E s)
  (n:Nat) (h:I n s):codeAny (model prog w) A (.compLoop (.ListComp elt [⟨target,iter,ifs,0⟩] scope pos) 0 it acc env) R s:=by
 refine codeAny_loop rfl I (λn s hI=>?_) n h
 show wpAny _ A ((compTurn (.ListComp elt [⟨target,iter,ifs,0⟩] scope pos) 0 it acc env).onRaise (λx=>do noteFrame x env;theTreesLotGoes x)) _ _ s
 refine wpAny_noted ?_
 rw[compTurn_list]
 refine wpAny_bind (wpAny_standAt (wpAny_bind (wpAny_mono (turn n s hI _) (λr s₁ h₁=>?_) λ_ _ h'=>h')))
 cases r with
 | none=>exact wpAny_pure h₁
 | some v =>
  refine wpAny_bind (wpAny_mono h₁ (λ_ s₁' h₁'=>?_) λ_ _ h'=>h')
  refine wpAny_bind (wpAny_mono h₁' (λ_ s₂ h₂=>wpAny_bind (wpAny_mono h₂ (λok s₃ h₃=>?_) λ_ _ h'=>h')) λ_ _ h'=>h')
  cases ok with
  | false=>exact wpAny_pure ⟨rfl,h₃⟩
  | true=>exact wpAny_bind (wpAny_bind (wpAny_mono h₃ (λx s₄ h₄=>wpAny_bind (wpAny_mono h₄ (λ_ s₅ h₅=>wpAny_pure (wpAny_pure ⟨rfl,h₅⟩)) λ_ _ h'=>h')) λ_ _ h'=>h'))
end
end Mine.Internal
end

noncomputable section
open PySem PySem.Calls PyProof.Rows PySem.SeqAt
namespace Mine.Internal
section
variable {W:Wd}{c:Cx}{o o1 o2 o':Nat→Option Addr}{ρ ρ1 ρ2 ρ':zc}{s s0 s1 s2 s':Shared}{i:Nat}{nm:Str}{b:B}{d:D}{e:Expr}{p pos pos' apos:Pos}{fl:Fl}{f:Flow}{st:Stmt}{ss:List Stmt}
theorem Rel.nx {wr:Addr→Prop}{wg:Nat→Prop} (rl:Rel W c o ρ s1) (n:Nx W wr wg s1 s2) (h1:∀b,wr b→c.base.heap.get? b=none) (h2:∀i,wg i→c.base.gens[i]? = none)
  (h3:∀b,wr b→b≠c.env.locals) (h4:∀b,wr b→∀x k,c.env.cells.lookup x=some k→b≠k):Rel W c o ρ s2:=by
 have seqs:∀b ob,s1.heap.get? b=some ob→(ob.cls = .type "list"∨ob.cls = .type "tuple")→(∃xs n,ob.data = .seq xs n)→¬W.X b→s2.heap.get? b=some ob:=λb ob e hc hd nx=>n.evo b ob e nx λq=>(n.cls b ob q e).seq hc hd
 have loc:∀m,s1.heap.Ns c.env.locals m→s2.heap.Ns c.env.locals m:=by
  rintro m ⟨ob,es,ep,ho,hd,r⟩
  exact⟨ob,es,ep,n.evo _ _ ho (λq=>(W.xcls rl.step.g q ho).2.1 _ _ hd) (λq=>h3 _ q rfl),hd,r⟩
 have cell:∀x k v,c.env.cells.lookup x=some k→s1.heap.IsCell k v→s2.heap.IsCell k v:=by
  rintro x k v hx ⟨ob,ho,hd⟩
  exact⟨ob,n.evo _ _ ho (λq=>(W.xcls rl.step.g q ho).2.2 _ hd) (λq=>h4 _ q x k hx rfl),hd⟩
 have var:∀x v,Var c.env s1.heap x v→Var c.env s2.heap x v:=by
  rintro x v (⟨hk,m,hm,hx⟩ | ⟨hk,k,hl,hx⟩)
  ·exact .inl ⟨hk,m,loc m hm,hx⟩
  ·exact .inr ⟨hk,k,hl,cell x k _ hl hx⟩
 have kRV:∀b ob,s1.heap.get? b=some ob→(ob.cls = .type "list"∧¬OX W o b∧∃xs n,ob.data = .seq xs n)∨(ob.cls = .type "tuple"∧∃xs n,ob.data = .seq xs n)→s2.heap.get? b=some ob:=by
  rintro b ob e (⟨hc,hx,hd⟩ | ⟨hc,hd⟩)
  ·exact seqs b ob e (.inl hc) hd λq=>hx (.inl q)
  ·exact seqs b ob e (.inr hc) hd λq=>(W.xcls rl.step.g q e).1 hc
 have kown:∀i a vs,o i=some a→s1.heap.PlainList a vs→s2.heap.PlainList a vs:=by
  rintro i a vs e ⟨m,ho⟩
  exact⟨m,seqs _ _ ho (.inl rfl) ⟨_,_,rfl⟩ (rl.ownX e)⟩
 refine⟨rl.ok,⟨λb ob e nx=>n.evo b ob (rl.step.evo b ob e nx) nx (λq=>by rw[h1 b q]at e;cases e),n.g,n.os.trans rl.step.os,λi g e=>n.gens i g (λq=>by rw[h2 i q]at e;cases e) (rl.step.gens i g e),n.bare,Nat.le_trans rl.step.toks n.toks⟩,
  let ⟨m,h⟩:=rl.loc;⟨m,loc m h⟩,λx k e=>let ⟨v,h⟩:=rl.cel x k e;⟨v,cell x k v e h⟩,λi x b q1 q2=>?_,λi a e=>let ⟨q,vs,h⟩:=rl.own i a e;⟨q,vs,kown i a vs e h⟩,rl.inj⟩
 refine xEA (rl.vars i x b q1 q2) λv hv hb=>?_
 refine⟨v,var x v hv,?_⟩
 cases b with
 | fz d=>exact RV.to kRV (λ_ q=>.inl q) hb
 | mu xs=>refine zar hb λa vs e1 e2 e3 e4=>?_;clear hb;exact⟨a,vs,e1,e2,kown i a _ e2 e3,RVs.to kRV (λ_ q=>.inl q) e4⟩
theorem Rel.turnOwn {j:Nat}{a:Addr}{vs vs':Array Value}{h':Heap} (rl:Rel W c o ρ s) (ho:o j=some a) (hj:c.ns[j]? = none) (hl:s.heap.PlainList a vs) (hl':h'.PlainList a vs') (hs:Heap.SameBut a s.heap h'):Rel W c o ρ {s with heap:=h'}:=by
 refine xE (id hl) λn e0=>?_
 have hsq:∀b ob,s.heap.get? b=some ob→b≠a→h'.get? b=some ob:=λb ob e hb=>by rw[hs.2 b hb];exact e
 have ld:=zR rl e0 (λes n e=>by cases e)
 have cd:=zaF rl e0 (λv e=>by cases e)
 have hk:∀b ob,s.heap.get? b=some ob→(ob.cls = .type "list"∧¬OX W o b∧∃xs n,ob.data = .seq xs n)∨(ob.cls = .type "tuple"∧∃xs n,ob.data = .seq xs n)→h'.get? b=some ob:=by
  rintro b ob e hc
  refine hsq b ob e ?_
  rintro rfl
  rcases hc with ⟨_,hx,_⟩ | ⟨hc,_⟩
  ·exact hx (.inr ⟨j,ho⟩)
  ·rw[e0]at e;cases e;exact absurd (Value.type.inj hc) (by decide)
 refine⟨rl.ok,zcz (tk:=s.toks) rl (rl.own j a ho).1 (λob e q=>by rw[e0]at e;cases e;exact absurd (Value.type.inj q.1) (by decide)) hs (Nat.le_refl _),let ⟨m,h⟩:=rl.loc;⟨m,h.sameBut hs ld.symm⟩,
  λx k e=>let ⟨v,h⟩:=rl.cel x k e;⟨v,h.sameBut hs (cd x k e).symm⟩,λi x b q1 q2=>?_,λi b e=>?_,rl.inj⟩
 ·refine xEA (rl.vars i x b q1 q2) λv hv hb=>?_
  refine⟨v,hv.to (λm h=>h.sameBut hs ld.symm) (λk v e h=>h.sameBut hs (cd _ k e).symm),?_⟩
  cases b with
  | fz d=>exact RV.to hk (λ_ q=>.inl q) hb
  | mu xs =>
   obtain⟨b,us,e1,e2,⟨n2,e3⟩,e4⟩:=hb
   refine⟨b,us,e1,e2,⟨n2,hsq b _ e3 ?_⟩,RVs.to hk (λ_ q=>.inl q) e4⟩
   rintro rfl
   have:=rl.inj i j b e2 ho
   subst this
   rw[hj]at q1;cases q1
 ·refine zmn (rl.own i b e) λq us n2 e3=>?_
  by_cases hb:b=a
  ·subst hb;exact⟨q,vs',hl'⟩
  ·exact⟨q,us,n2,hsq b _ e3 hb⟩
theorem zia (h:o i=none):upd o i none=o:=by rw[← h];exact zmC
theorem zky (h0:∀i,i < c.no→o i=none):∀{fs:List (Value→Sem Unit)}{is:List Nat}{ds:List D}{vs:List Value}{ρ:zc}{s:Shared},Rel W c o ρ s→ziQ W c fs is→zal ρ is ds=some ρ'→RVs s.heap W.X ds vs →
  ∀{Q:Unit→Shared→Prop}{E:Value→Shared→Prop},(∀s',Rel W c o ρ' s'→zeE c s s'→zt s s'→Q () s')→wpAny W.M c.A (assignInOrder fs vs) Q E s
 | [],is,ds,vs,ρ,s,rl,hs,hb,hr,Q,E,k=>by
  have hs:is=[]:=hs;subst hs
  cases ds with
  | nil=>cases zQ hr;simp only[zrx,Option.some.injEq]at hb;subst hb;exact wpAny_pure (k s rl .refl λ_ _ e=>e)
  | cons=>exact zl hb
 | f::fs,is,ds,vs,ρ,s,rl,hs,hb,hr,Q,E,k=>by
  refine zhS hs λi r nm q3_ hi hn hf ht=>?_;clear hs;subst q3_
  cases ds with
  | nil=>exact zl hb
  | cons d ds =>
   refine zao hr λv u r1 r2=>?_
   have hfl:=zak hb
   simp only[zde,Bool.and_eq_true]at hfl
   simp only[znR,hfl.1,if_true]at hb
   show wpAny _ _ (do holding u (f v);assignInOrder fs u) Q E s
   refine wpAny_bind (wpAny_holding (hf v s _ _ (zbs rl rl.gd.refl hi hn (r1.flat hfl.1) λs' r l g a=>?_)))
   rw[zia (h0 i hi)]at r
   exact zky h0 r ht hb (r2.left rl (l.left (o:=o)) hfl.2) λs2 r2 l2 g2=>k s2 r2 (l.trans l2) (g.trans g2)
theorem tgt0 {t:Expr}{n:Nat}{is:List Nat}{ds:List D}{v:Value} (h0:∀i,i < c.no→o i=none) (rl:Rel W c o ρ s) (ht:zmm c t n is) (h1:zfW n d=some ds) (h2:zal ρ is ds=some ρ') (r:RV s.heap W.X d v) {Q:Unit→Shared→Prop}{E:Value→Shared→Prop}
  (k:∀s',Rel W c o ρ' s'→(∀b ob,s.heap.get? b=some ob→¬W.X b→b≠c.env.locals→(∀x k,c.env.cells.lookup x=some k→b≠k)→s'.heap.get? b=some ob)→zt s s'→Q () s'):wpAny W.M c.A (assign t c.env v) Q E s:=by
 rcases ht with ⟨rfl,nm,p,i,rfl,rfl,hi,hn⟩ | ⟨hn,ts,kk,p,rfl,ht⟩
 ·have:ds=[d]:=zp h1
  subst this
  have hf:=zak h2
  simp only[zmr,zde,Bool.and_true]at hf
  simp only[zrx,znR,hf,if_true,Option.some.injEq]at h2
  subst h2
  exact PyProof.Rows.assign_Name (zbs rl rl.gd.refl hi hn (r.flat hf) λs' r l g a=>by
   rw[zia (h0 i hi)]at r
   exact k s' r (λb ob e _ h1 h2=>l b ob e h1 h2) g)
 ·cases n with
  | zero=>exact absurd rfl hn
  | succ n =>
   refine xEA (zcE h1) λxs q_ h1=>?_
   subst q_
   refine zay h1 λ_ h1=>?_
   ·cases h1
    refine zkE r λa vs h1 h3=>?_
    refine xAA (ht.stores (W:=W)) λq1 q2 q3=>?_
    refine wpAny_assign_Tuple rl.ok.room.1 h1 (by rw[q2,zcV h2];simp[h3.len]) q3 λh' he=>?_
    have x:Stp W s {s with heap:=h'}:=rl.gd.keeps (tk:=s.toks) λb ob e=>he b ob (Nat.ne_of_lt (Heap.lt_size e)) e
    exact zky h0 (rl.mono x) q1 h2 (h3.step rl.step.g x λ_ q=>q) λs' r l g=>k s' r (λb ob e hx h1 h2=>l b ob (x.evo b ob e hx) h1 h2) (zt.trans x.gens g)
theorem zha:∀{ts:List (Option B)}{css:zc}{ds:List D} (pre:zc),zg ds=true→ts.length=ds.length→zal (pre++(ts++css)) (List.range' pre.length ds.length) ds=some (pre++(ds.map (λd=>some (.fz d))++css))
 | [],css,[],pre,_,_=>rfl
 | t::ts,css,[],pre,_,h=>by simp at h
 | [],css,d::ds,pre,_,h=>by simp at h
 | t::ts,css,d::ds,pre,hf,h=>by
  simp only[zde,Bool.and_eq_true]at hf
  simp only[List.length_cons,List.range'_succ,znR,hf.1,if_true,zaU]
  have e:(pre++(t::ts++css)).set pre.length (some (.fz d))=(pre++[some (.fz d)])++(ts++css):=by
   simp[List.set_append_right]
  rw[e]
  have:=zha (ts:=ts) (css:=css) (ds:=ds) (pre++[some (.fz d)]) hf.2 (by simpa using h)
  simpa using this
theorem zhL {n:Nat}{ds:List D} (h:zfW n d=some ds) (hf:zbp d=true):zg ds=true∧ds.length=(if n=0 then 1 else n):=by
 cases n with
 | zero =>
  have:ds=[d]:=zp h
  subst this;simp[zmr,zde,hf]
 | succ n =>
  refine xEA (zcE h) λxs q_ h1=>?_
  subst q_
  refine zay h1 λhn h1=>?_
  cases h1
  exact⟨hf,hn⟩
end
end Mine.Internal
end

noncomputable section
open PySem PySem.Calls PyProof.Rows PySem.SeqAt
namespace Mine.Internal
noncomputable def zve (W:Wd) (c:Cx) (ρ:zc) (ifs:List Expr) (b:Bool):Prop :=
 ∀o s,Rel W c o ρ s→∀(Q:Bool→Shared→Prop) (E:Value→Shared→Prop),(∀s',Stp W s s'→Q b s') →
  wpAny W.M c.A (forIn ifs true λe r=>if r=true then do let ok ← isTrue e c.env (eval e c.env);pure (ForInStep.yield ok) else pure (ForInStep.yield r)) Q E s
theorem znE {W:Wd}{c:Cx}{ρ:zc}:zve W c ρ [] true:=λo s rl Q E k=>wpAny_tests_nil (k s rl.gd.refl)
theorem znD {W:Wd}{c:Cx}{ρ:zc}{e:Expr}{b:Bool} (h:EvT W c ρ e b):zve W c ρ [e] b:=λo s rl Q E k=>wpAny_tests_one (h o s rl _ _ k)
structure CompSt (env:Env) (scope:Scope) (ns:List Str) (nt:Nat):Prop where
 kind:scope.kind = .function
 nodup:(scope.names.map (·.1)).Nodup
 nd:ns.Nodup
 dbg:∀x∈ns,(x == ("__debug__" : Str))=false
 tgt:∀i x,i < nt→ns[i]? = some x→(x,NameKind.local)∈scope.names∨(x,NameKind.cell)∈scope.names
 cap:∀i x,nt≤i→ns[i]? = some x→(x,NameKind.free)∈scope.names∧(x == ("__classdict__" : Str))=false
 all:∀x,(x,NameKind.free)∈scope.names→∃i,nt≤i∧ns[i]? = some x
 out:∀i x,nt≤i→ns[i]? = some x→env.kindOf x≠some .local
structure InComp (c:Cx) (scope:Scope) (ns:List Str) (nt:Nat) (c':Cx):Prop where
 k:c'.k=c.k
 A:c'.A=c.A
 sc:c'.env.scope=relabel scope c.env
 ns:c'.ns=ns
 no:c'.no=nt
section
variable {W:Wd}{c:Cx}{o:Nat→Option Addr}{ρ:zc}{s s1 s2 s':Shared}
theorem zeI {scope:Scope}{env:Env}{x:Str}{k:NameKind} (hn:(scope.names.map (·.1)).Nodup) (h:(x,k)∈scope.names) :
  (relabel scope env).names.lookup x=some (if (k == .free && env.scope.kind == .function && env.kindOf x == some .cell) then .cell else k):=by
 unfold relabel
 dsimp only
 refine zag ?_ ?_
 ·rw[List.map_map]
  have:((λx=>x.1) ∘ λ(x:Str×NameKind)=>match x with
   | (n,k)=>if (k == NameKind.free && env.scope.kind == ScopeKind.function && env.kindOf n == some NameKind.cell)=true then(n,NameKind.cell) else(n,k))=λx=>x.1:=by
   funext ⟨a,b⟩
   simp only[Function.comp]
   split<;>rfl
  rw[this];exact hn
 ·refine List.mem_map.mpr ⟨(x,k),h,?_⟩
  split<;>simp_all
theorem zfc {i:Nat}{x:Str}{v:Value}{env:Env} (h:Var env s.heap x v) (hk:env.kindOf x≠some .local):∃k,env.cells.lookup x=some k∧s.heap.IsCell k (some v):=by
 rcases h with ⟨h,_⟩ | ⟨_,k,h1,h2⟩
 ·exact absurd h hk
 ·exact⟨k,h1,h2⟩
theorem zjg {x:Str}{v:Value}{env:Env} (h:Var env s.heap x v) (hk:env.kindOf x≠some .local):env.kindOf x=some .cell∨env.kindOf x=some .free:=by
 rcases h with ⟨h,_⟩ | ⟨h | ⟨h,_⟩,_⟩
 ·exact absurd h hk
 ·exact .inl h
 ·exact .inr h
theorem zjC {scope:Scope}{ns:List Str}{nt:Nat}{cs:List D} (st:CompSt c.env scope ns nt) (rl:Rel W c o ρ s) (x:Stp W s s2)
  (hnt:nt≤ns.length)
  (hcap:∀j y,nt≤j→ns[j]? = some y→∃i d,c.ns[i]? = some y∧zbd ρ i=some d∧cs[j - nt]? = some d)
  {Q:Env→Shared→Prop}{E:Value→Shared→Prop}
  (hQ:∀c' s5,InComp c scope ns nt c'→c'.base=s→c'.env.locals=s2.heap.objs.size+1→(∀y k,c'.env.cells.lookup y=some k→s2.heap.objs.size < k∨c.env.cells.lookup y=some k) →
   Rel W c' (λj=>if j=ns.length then some s2.heap.objs.size else none) (List.replicate nt none++cs.map (λd=>some (.fz d))) s5 →
   (∀b ob,s2.heap.get? b=some ob→s5.heap.get? b=some ob)→s5.gens=s2.gens→s5.heap.PlainList s2.heap.objs.size #[]→∀envc,c'.env={envc with scope:=relabel scope c.env}→Q envc s5) :
  wpAny W.M c.A (newFunctionEnv scope c.env.globals (zaQ c.env scope.names []) [] c.env.qual none .none (some c.env)) Q E {s2 with heap:=s2.heap.push {cls:=.type "list",data:=.seq #[]}}:=by
 have hsz:(s2.heap.push {cls:=.type "list",data:=.seq #[]}).objs.size=s2.heap.objs.size+1:=Heap.size_push ..
 have newer:∀a,s2.heap.objs.size≤a→s.heap.get? a=none:=λa ha=>Decidable.byContradiction λq=>by
  cases e:s2.heap.get? a with
  | none=>exact x.alive rl.step.g q e
  | some ob=>exact absurd (Heap.lt_size e) (Nat.not_lt.mpr ha)
 have capc:∀y,(y,NameKind.free)∈scope.names→∃i v k d,c.ns[i]? = some y∧zbd ρ i=some d∧Var c.env s.heap y v∧(∃b,ρ[i]? = some (some b)∧BV W s.heap o i b v)∧c.env.cells.lookup y=some k∧s.heap.IsCell k (some v):=by
  intro y hy
  refine xEA (st.all y hy) λj hj hjy=>?_
  refine zbb (hcap j y hj hjy) λi d h1 h2 h3=>?_
  have hb:∃b,ρ[i]? = some (some b):=(zlw h2).elim λb h=>⟨b,h.1⟩
  refine xE hb λb hb=>?_
  refine xEA (rl.vars i y b h1 hb) λv hv hbv=>?_
  refine xEA (zfc (i:=i) hv (st.out j y hj hjy)) λk hk hkc=>?_
  exact⟨i,v,k,d,h1,h2,hv,⟨b,hb,hbv⟩,hk,hkc⟩
 have hfree:∀y,(y,NameKind.free)∈scope.names→(c.env.cells.lookup y).isSome=true:=λy hy=>by
  refine ziR (capc y hy) λ_ _ k _ _ _ _ _ h _=>?_;rw[h];rfl
 refine zhx ?_
 rw[hsz]
 let h3:Heap:=(s2.heap.push {cls:=.type "list",data:=.seq #[]}).push {cls:=.type "dict",data:=.dict #[]}
 let cells:=cellsFrom (s2.heap.objs.size+1+1) scope.names (zaQ c.env scope.names [])
 let env0:Env:=newEnv scope (s2.heap.objs.size+1) c.env.globals cells c.env.qual none .none (some c.env) builtinsNs
 have keep:∀b ob,s2.heap.get? b=some ob→(pushCells h3 scope.names).get? b=some ob:=λb ob e=>pushCells_keeps _ _ b ob (Heap.get?_push_of_some _ (Heap.get?_push_of_some _ e))
 have hmem:∀y k,cells.lookup y=some k→(s2.heap.objs.size+1+1≤k∧(y,NameKind.cell)∈scope.names)∨((y,NameKind.free)∈scope.names∧c.env.cells.lookup y=some k):=λy k e=>by
  rcases zaD _ _ _ y k (mem_of_lookup e) with h | h
  ·exact .inl h
  ·rcases zdj _ _ hfree y k h with h | h
   ·exact .inr h
   ·cases h
 have own:=cellsFrom_ok scope.names h3 (s2.heap.objs.size+1+1) [] ⟨λ_ _ hm=>(nomatch hm),List.Pairwise.nil⟩ (by show _≤h3.objs.size;rw[Heap.size_push,hsz];exact Nat.le_refl _)
 rw[show h3.objs.size=s2.heap.objs.size+1+1 from by rw[Heap.size_push,hsz]]at own
 have happ:cells=cellsFrom (s2.heap.objs.size+1+1) scope.names []++zaQ c.env scope.names []:=by
  show cellsFrom _ _ _=_
  rw[← zbB];rfl
 have alive2:∀y k,c.env.cells.lookup y=some k→k < s2.heap.objs.size:=λy k e=>by
  refine xE (rl.cel y k e) λv hv=>?_
  exact(zC rl.step.g x hv).lt
 have ownmem:∀y k,cells.lookup y=some k→s2.heap.objs.size+1+1≤k→(y,k)∈cellsFrom (s2.heap.objs.size+1+1) scope.names []:=λy k e hk=>by
  have:=mem_of_lookup e
  rw[happ]at this
  rcases List.mem_append.mp this with h | h
  ·exact h
  ·rcases zdj _ _ hfree y k h with ⟨_,h⟩ | h
   ·exact absurd (alive2 y k h) (Nat.not_lt.mpr (Nat.le_trans (Nat.le_add_right _ 2) hk))
   ·cases h
 have hkind:∀y k,(y,k)∈scope.names→({env0 with scope:=relabel scope c.env}:Env).kindOf y=some (if (k == .free && c.env.scope.kind == .function && c.env.kindOf y == some .cell) then .cell else k):=λy k h=>zeI st.nodup h
 have tgtk:∀i y k,i < nt→ns[i]? = some y→(y,k)∈scope.names→k≠.free:=λi y k hi hy hm=>by
  rintro rfl
  rcases st.tgt i y hi hy with h | h
  ·exact absurd (zB st.nodup h hm) (by decide)
  ·exact absurd (zB st.nodup h hm) (by decide)
 let c':Cx:={k:=c.k,A:=c.A,env:={env0 with scope:=relabel scope c.env},base:=s,ns:=ns,no:=nt}
 refine hQ c' {s2 with heap:=pushCells h3 scope.names} ⟨rfl,rfl,rfl,rfl,rfl⟩ rfl rfl (λy k e=>?_) ⟨?_,?_,?_,?_,?_,?_,?_⟩ keep rfl ?_ env0 rfl
 ·rcases hmem y k e with ⟨h,_⟩ | ⟨_,h⟩
  ·exact .inl (Nat.le_of_lt h)
  ·exact .inr h
 ·exact {
   glob:=rl.ok.glob,blt:=rl.ok.blt,kind:=st.kind,nd:=st.nd,dbg:=st.dbg,room:=rl.ok.room,good:=rl.step.g,toks:=Nat.le_trans rl.ok.toks rl.step.toks,lnew:=newer _ (Nat.le_succ _),
   cnew:=λi y k hi hy e=>by
    rcases hmem y k e with ⟨h,_⟩ | ⟨h,_⟩
    ·exact newer k (Nat.le_trans (Nat.le_succ _) (Nat.le_of_lt h))
    ·exact absurd rfl (tgtk i y .free hi hy h)
   kinds:=λi y hi hy=>by
    rcases st.tgt i y hi hy with h | h
    ·exact .inl (by rw[hkind y _ h];rfl)
    ·exact .inr ⟨by rw[hkind y _ h];rfl,zK _ _ _ y h⟩
   cinj:=λy z k e1 e2=>by
    rcases hmem y k e1 with ⟨h1,_⟩ | ⟨_,h1⟩<;>rcases hmem z k e2 with ⟨h2,_⟩ | ⟨_,h2⟩
    ·exact name_of_addr own.apart (ownmem y k e1 h1) (ownmem z k e2 h2)
    ·exact absurd (alive2 z k h2) (Nat.not_lt.mpr (Nat.le_trans (Nat.le_add_right _ 2) h1))
    ·exact absurd (alive2 y k h1) (Nat.not_lt.mpr (Nat.le_trans (Nat.le_add_right _ 2) h2))
    ·exact rl.ok.cinj y z k h1 h2}
 ·exact x.keeps (h:=pushCells h3 scope.names) (tk:=s2.toks) keep
 ·exact⟨_,(Heap.Ns.new (s2.heap.push {cls:=.type "list",data:=.seq #[]}) (.type "dict")).keeps (pushCells_keeps _ _) |> λh=>by rw[hsz]at h;exact h⟩
 ·intro y k e
  rcases hmem y k e with ⟨h,_⟩ | ⟨_,h⟩
  ·exact⟨none,(own.empty y k (ownmem y k e h)).1⟩
  ·refine xE (rl.cel y k h) λv hv=>?_
   exact⟨v,(zC rl.step.g x hv).keeps keep⟩
 ·intro j y b hy hb
  have hj:nt≤j:=by
   rcases Nat.lt_or_ge j nt with h | h
   ·rw[List.getElem?_append_left (by simpa using h),List.getElem?_replicate,if_pos h]at hb;cases hb
   ·exact h
  rw[List.getElem?_append_right (by simpa using hj)]at hb
  simp only[List.length_replicate,List.getElem?_map]at hb
  refine zbb (hcap j y hj hy) λi d h1 h2 h3'=>?_
  rw[h3']at hb
  cases hb
  refine xA (st.cap j y hj hy) λhyf hcd=>?_
  obtain⟨i2,v,k,d2,g1,g2,hv,⟨bb,hbb,hbv⟩,hk,hkc⟩:=capc y hyf
  have hi:i2=i:=by
   refine(List.getElem?_inj (List.getElem?_eq_some_iff.mp g1).1 rl.ok.nd).mp (by rw[g1,h1])
  subst hi
  rw[h2]at g2;cases g2
  have hl:cells.lookup y=some k:=by
   refine xE (zfq (env:=c.env) scope.names [] y hyf) λk0 hk0=>?_
   refine xE (Option.isSome_iff_exists.mp (zG (zaq scope.names (s2.heap.objs.size+1+1) _ y k0 hk0))) λk1 hk1=>?_
   have hk1':cells.lookup y=some k1:=hk1
   rcases hmem y k1 hk1' with ⟨_,h⟩ | ⟨_,h⟩
   ·exact absurd (zB st.nodup h hyf) (by decide)
   ·rw[hk]at h;cases h;exact hk1'
  refine⟨v,.inr ⟨?_,k,hl,(zC rl.step.g x hkc).keeps keep⟩,?_⟩
  ·show({env0 with scope:=relabel scope c.env}:Env).kindOf y=_∨_
   rw[hkind y _ hyf]
   rcases zjg hv (st.out j y hj hy) with q | q
   ·rw[q,rl.ok.kind];exact .inl rfl
   ·rw[q]
    right
    refine⟨?_,hcd⟩
    rw[if_neg (by simp)]
  ·have hev:∀b ob,s.heap.get? b=some ob→¬W.X b→(pushCells h3 scope.names).get? b=some ob:=λb ob e nx=>keep b ob (x.evo b ob e nx)
   have hO:∀a,OX W (λj=>if j=ns.length then some s2.heap.objs.size else none) a→OX W o a∨s.heap.get? a=none:=by
    rintro a (q | ⟨j,q⟩)
    ·exact .inl (.inl q)
    ·dsimp only at q
     split at q
     ·cases q;exact .inr (newer _ (Nat.le_refl _))
     ·cases q
   have hKK:∀b ob,s.heap.get? b=some ob→(ob.cls = .type "list"∧¬OX W o b∧∃xs n,ob.data = .seq xs n)∨(ob.cls = .type "tuple"∧∃xs n,ob.data = .seq xs n)→(pushCells h3 scope.names).get? b=some ob:=by
    rintro b ob e (⟨_,hx,_⟩ | ⟨hc,_⟩)
    ·exact hev b ob e λq=>hx (.inl q)
    ·exact hev b ob e λq=>(W.xcls rl.step.g q e).1 hc
   rw[zfM hbb]at h2
   cases bb with
   | fz d'=>cases h2;exact RV.to hKK hO hbv
   | mu xs =>
    cases h2
    obtain⟨a,vs,rfl,ho,⟨n,hl⟩,hr⟩:=hbv
    refine zy.mpr ⟨a,vs,rfl,⟨n,hev a _ hl (rl.ownX ho)⟩,?_,RVs.to hKK hO hr⟩
    rintro(q | ⟨j,q⟩)
    ·exact rl.ownX ho q
    ·dsimp only at q
     split at q
     ·cases q
      have:=newer _ (Nat.le_refl s2.heap.objs.size)
      rw[hl]at this;cases this
     ·cases q
 ·intro j a e
  split at e
  ·cases e
   exact⟨newer _ (Nat.le_refl _),#[],0,pushCells_keeps _ _ _ _ (Heap.get?_push_of_some _ (Heap.get?_push_size _ rfl))⟩
  ·cases e
 ·intro j1 j2 a e1 e2
  split at e1<;>split at e2<;>simp_all
 ·exact⟨0,pushCells_keeps _ _ _ _ (Heap.get?_push_of_some _ (Heap.get?_push_size _ rfl))⟩
end
end Mine.Internal
end

noncomputable section
open PySem PySem.Calls PyProof.Rows PySem.SeqAt
namespace Mine.Internal
section
variable {W:Wd}{c:Cx}{o:Nat→Option Addr}{ρ:zc}{s s1 s2 s':Shared}
theorem znN {scope:Scope}{ns:List Str}{nt:Nat}{cs:List D} (st:CompSt c.env scope ns nt) (rl:Rel W c o ρ s)
  (hcap:∀j y,nt≤j→ns[j]? = some y→∃i d,c.ns[i]? = some y∧zbd ρ i=some d∧cs[j - nt]? = some d):∀y,(y,NameKind.free)∈scope.names→(c.env.cells.lookup y).isSome=true:=by
 intro y hy
 refine xEA (st.all y hy) λj hj hjy=>?_
 refine zbb (hcap j y hj hjy) λi d h1 h2 h3=>?_
 have hb:∃b,ρ[i]? = some (some b):=(zlw h2).elim λb h=>⟨b,h.1⟩
 refine xE hb λb hb=>?_
 refine xEA (rl.vars i y b h1 hb) λv hv hbv=>?_
 refine xEA (zfc (i:=i) hv (st.out j y hj hjy)) λk hk hkc=>?_
 rw[hk];rfl
noncomputable def EvU (W:Wd) (c:Cx) (ρ:zc) (e:Expr) (scope:Scope) (p:Pos) (first:Sem Value) (ys:List D):Prop :=
 ∀(use:Option (Value→Sem Unit)) (o:Nat→Option Addr) (s:Shared),Rel W c o ρ s→∀(Q:Value→Shared→Prop) (E:Value→Shared→Prop),
  (∀(Cl D:Addr) (s3:Shared) (mm:Str→Option Value) (r:Flow),s3.heap.Ns Cl mm→s.heap.get? Cl=none→(∀h',Heap.SameBut Cl s3.heap h'→Stp W s {s3 with heap:=h'}∧RV h' (zjV W c o s .nu) (.list ys) (.ref D)) →
   compPost W.M c.A E use Q (.ref D) Cl (.ok r) s3) →
  wpAny W.M c.A (comprehension e scope c.env p (newList []) false first use) Q E s
noncomputable def zqc (i:Nat) (a:Addr):Nat→Option Addr:=λj=>if j=i then some a else none
inductive CompI (W:Wd) (c':Cx) (i:Nat) (Da:Addr) (cs ys:List D) (nt n:Nat) (test:zc→Option Bool) (eltF:zc→Option D) (St:(Addr→Prop)→(Addr→Prop)→List D→Shared→Prop) (m:Nat) (s1:Shared):Prop
 | mk (fp wr:Addr→Prop) (ds:List D) (ts:zc) (dn:List D) (vs:List Value) (rest:List D) (hm:ds.length=m) (hts:ts.length=nt) (rl1:Rel W c' (zqc i Da) (ts++cs.map λd=>some (.fz d)) s1) (hSt:St fp wr ds s1)
  (nw:∀b,wr b→c'.base.heap.get? b=none) (ap:∀b,fp b→¬W.X b∧b≠c'.env.locals∧(∀y k,c'.env.cells.lookup y=some k→b≠k)∧b≠Da) (hDl:s1.heap.PlainList Da (List.toArray vs)) (hdn:RVs s1.heap W.X dn vs) (hfd:zg dn=true) (hfds:zg ds=true)
  (hcL:zbO n (cs.map λd=>some (.fz d)) test eltF ds=some rest) (hys:dn++rest=ys) (hsz:dn.length+ds.length≤2 ^ 20):CompI W c' i Da cs ys nt n test eltF St m s1
theorem znM {elt target iter:Expr}{ifs:List Expr}{scope:Scope}{pos:Pos}{n nt:Nat}{ns:List Str}{cs items ys:List D}{pr:Bool}{test:zc→Option Bool}{eltF:zc→Option D}
  (st:CompSt c.env scope ns nt) (hn:nt=if n=0 then 1 else n) (hnl:ns.length=nt+cs.length) (htgt:∀c',InComp c scope ns nt c'→zmm c' target n (List.range' 0 nt))
  (hsrc:EvS W false c ρ iter pr items) (hp:pr=true∨zcL target=true) (hfl:zg items=true) (hlen:items.length≤2 ^ 20)
  (hcap:∀j y,nt≤j→ns[j]? = some y→∃i d,c.ns[i]? = some y∧zbd ρ i=some d∧cs[j - nt]? = some d)
  (htest:∀c',InComp c scope ns nt c'→∀σ b,test σ=some b→zve W c' σ ifs b) (helt:∀c',InComp c scope ns nt c'→∀σ d,eltF σ=some d→Ev W .al c' σ elt d)
  (hL:zbO n (cs.map λd=>some (.fz d)) test eltF items=some ys) (hfs:∀x,foldedSetIterable iter c.env x=pure x) :
  EvU W c ρ (.ListComp elt [⟨target,iter,ifs,0⟩] scope pos) scope iter.pos (eval iter c.env) ys:=λuse o s rl Q E k=>by
 refine wpAny_comprehension_free (use:=use) rfl hfs (zbA (znN st rl hcap)) st.kind (λx hx hl=>zag st.nodup (by rw[← hl];exact hx)) (hsrc o s rl _ _ λit s2 src=>?_)
 obtain⟨⟨fp,wr,wg,St,I,hst,hw,hg,ha⟩,x⟩:=src
 refine wpAny_newObj_type (zjC st rl x (by lia) hcap λc' s5 ic hb hC hcl rl5 keep hgens hD0 envc henv=>?_)
 have hD:c'.ns.length=ns.length:=by rw[ic.ns]
 have hD5:s5.heap.PlainList s2.heap.objs.size (List.toArray []):=hD0
 have eC:envc.locals=c'.env.locals:=by rw[henv]
 have h0:∀i,i < c'.no→(zqc ns.length s2.heap.objs.size) i=none:=λi hi=>by
  rw[ic.no]at hi
  show(if i=ns.length then _ else none)=none
  rw[if_neg (by lia)]
 have hoD:(zqc ns.length s2.heap.objs.size) ns.length=some s2.heap.objs.size:=if_pos rfl
 have hnsD:c'.ns[ns.length]? = none:=by rw[ic.ns];simp
 have hst5:St fp wr items s5:=I.frame hst (λb ob _ e=>keep b ob e) λi g _ e=>by rw[hgens];exact e
 have nw0:∀b,wr b→c'.base.heap.get? b=none:=λb h=>by rw[hb];exact hw b h
 have ng:∀i,wg i→c'.base.gens[i]? = none:=λi h=>by rw[hb];exact hg i h
 have hDnew:s.heap.get? s2.heap.objs.size=none:=by
  have:=(rl5.own ns.length _ hoD).1
  rwa [hb]at this
 have ap0:∀b,fp b→¬W.X b∧b≠c'.env.locals∧(∀y k,c'.env.cells.lookup y=some k→b≠k)∧b≠s2.heap.objs.size:=λb hbf=>by
  have hlt:b < s2.heap.objs.size:=by
   have:=I.alive hst hbf
   cases e:s2.heap.get? b with
   | none=>exact absurd e this
   | some ob=>exact Heap.lt_size e
  refine⟨(ha b hbf).1,λe=>?_,λy k hk e=>?_,Nat.ne_of_lt hlt⟩
  ·rw[e,hC]at hlt;exact absurd hlt (Nat.not_lt.mpr (Nat.le_succ _))
  ·rcases hcl y k hk with q | q
   ·rw[e]at hlt;exact Nat.lt_irrefl _ (Nat.lt_trans q hlt)
   ·exact(ha b hbf).2.2.1 y k q e
 suffices loop:codeAny W.M c.A (.compLoop (.ListComp elt [⟨target,iter,ifs,0⟩] scope pos) 0 it (.ref s2.heap.objs.size) {envc with scope:=relabel scope c.env}) (compPost W.M c.A E use Q (.ref s2.heap.objs.size) envc.locals) s5 from
  codeAny_compStart_list loop (I.self hst5 loop)
 have I':ItrD W c'.A it s wg pr St:=by rw[ic.A];exact I
 rw[← henv,← ic.A]
 refine zgS (λm s1=>CompI W c' ns.length s2.heap.objs.size cs ys nt n test eltF St m s1) (λm s1 hI E1=>?_) items.length
  ⟨fp,wr,items,List.replicate nt none,[],[],ys,rfl,List.length_replicate,rl5,hst5,nw0,ap0,hD5,.nil,rfl,hfl,hL,rfl,by simpa using hlen⟩
 obtain⟨fp,wr,ds,ts,dn,vs,rest,hm,hts,rl1,hSt,nw,ap,hDl,hdn,hfd,hfds,hcL,hys,hsz⟩:=hI
 have al1:zca s s1:=by have:=rl1.step.aliv rl1.ok.good;rwa [hb]at this
 have htk1:W.tk0≤s1.toks:=Nat.le_trans rl1.ok.toks rl1.step.toks
 have nxD:∀{wr:Addr→Prop}{s3:Shared}{us:List Value},s1.heap.PlainList s2.heap.objs.size (List.toArray us)→Nx W wr wg s1 s3→s3.heap.PlainList s2.heap.objs.size (List.toArray us):=λ⟨q,e⟩ hn=>⟨q,hn.evo _ _ e (rl1.ownX hoD) λh=>(hn.cls _ _ h e).seq (.inl rfl) ⟨_,_,rfl⟩⟩
 have nxT:∀{wr:Addr→Prop}{s3:Shared}{us:List Value}{es:List D},zg es=true→RVs s1.heap W.X es us→Nx W wr wg s1 s3→RVs s3.heap W.X es us:=λhf r hn=>r.flat_to hf λb ob e hc =>
  hn.evo b ob e (λq=>(W.xcls rl1.step.g q e).1 hc.1) λh=>(hn.cls b ob h e).seq (.inr hc.1) hc.2
 cases ds with
 | nil =>
  refine I'.done hSt rl1.gd htk1 al1 λs3 wr' hwr' hx=>?_
  have nw':∀b,wr' b→c'.base.heap.get? b=none:=λb q=>(hwr' b q).elim (nw b) λq=>by rw[hb];exact q.1
  have ap':∀b,wr' b→b≠c'.env.locals∧(∀y k,c'.env.cells.lookup y=some k→b≠k):=λb q=>(hwr' b q).elim (λq=>⟨(ap b (I.sub hSt b q)).2.1,(ap b (I.sub hSt b q)).2.2.1⟩) λq=>by
   refine zeR (zam rl.step.g rl1 q) λa1 a2 a3 a4=>?_
   exact⟨a2,a3⟩
  have rl3:=rl1.nx hx nw' ng (λb h=>(ap' b h).1) λb h=>(ap' b h).2
  refine xE rl3.loc λmm hmm=>?_
  have hcL:=Option.some.inj (show some []=some rest from hcL)
  subst hcL
  rw[List.append_nil]at hys
  subst hys
  show compPost W.M c'.A E use Q (.ref s2.heap.objs.size) envc.locals (.ok .next) s3
  rw[ic.A]
  refine k _ _ _ mm _ (eC▸hmm) (by rw[eC,← hb];exact rl3.ok.lnew) λh' hs'=>?_
  rw[eC]at hs'
  have T:=zcz (tk:=s3.toks) rl3 rl3.ok.lnew (zef hmm) hs' (Nat.le_refl _)
  rw[hb]at T
  refine xE (nxD hDl hx) λq eD=>?_
  have neD:s2.heap.objs.size≠c'.env.locals:=by rw[hC];exact Nat.ne_of_lt (Nat.lt_succ_self _)
  refine⟨T,zy.mpr ⟨_,vs,rfl,⟨q,(hs'.2 _ neD).trans eD⟩,?_,(nxT hfd hdn hx).flat_to hfd λb ob e hc=>(hs'.2 b ?_).trans e⟩⟩
  ·rintro(h | h)
   ·exact rl1.ownX hoD h
   ·exact h hDnew
  ·exact zR rl3 e λes n q=>by refine zmn hc λ_ xs n2 h2=>?_;clear hc;rw[h2]at q;cases q
 | cons d ds =>
  simp only[zde,Bool.and_eq_true]at hfds
  refine I'.item hSt rl1.gd htk1 al1 λv s3 fp' wr' wn hSt3 hfp' hwr' hwn hr hx=>?_
  have nw':∀b,wr' b→c'.base.heap.get? b=none:=λb q=>(hwr' b q).elim (nw b) λq=>by rw[hb];exact q.1
  have apw:∀b,wn b→b≠c'.env.locals∧(∀y k,c'.env.cells.lookup y=some k→b≠k):=λb q=>(hwn b q).elim (λq=>⟨(ap b (I.sub hSt b q)).2.1,(ap b (I.sub hSt b q)).2.2.1⟩) λq=>by
   refine zeR (zam rl.step.g rl1 q) λa1 a2 a3 a4=>?_
   exact⟨a2,a3⟩
  have ap':∀b,fp' b→¬W.X b∧b≠c'.env.locals∧(∀y k,c'.env.cells.lookup y=some k→b≠k)∧b≠s2.heap.objs.size:=λb q=>(hfp' b q).elim (ap b) λq=>by
   refine zeR (zam rl.step.g rl1 q) λa1 a2 a3 a4=>?_
   exact⟨a1,a2,a3,λe=>a4 ns.length (by rw[e];exact hoD)⟩
  have rl3:=rl1.nx hx (λb q=>(hwn b q).elim (nw b) λq=>by rw[hb];exact q.1) ng (λb h=>(apw b h).1) λb h=>(apw b h).2
  have hDl3:=nxD hDl hx
  have hdn3:=nxT hfd hdn hx
  refine zf (zxu.symm.trans hcL) λxs hq hcL=>?_
  ·refine xA (zhL hq hfds.1) λhfx hxl=>?_
   have hbv:zal (ts++cs.map λd=>some (.fz d)) (List.range' 0 nt) xs=some (xs.map (λd=>some (.fz d))++cs.map λd=>some (.fz d)):=by
    have:=zha (ts:=ts) (css:=cs.map λd=>some (.fz d)) (ds:=xs) [] hfx (by rw[hts,hxl,hn])
    simpa [hxl,hn] using this
   refine I'.letgo (hp.imp id id) hSt3 (tgt0 h0 rl3 (htgt c' ic) hq hbv hr λs4 rl4 l4 g4=>?_)
   have keepS:∀{s5 s6:Shared}{es:List D},St fp' wr' es s5→(∀b o,fp' b→s5.heap.get? b=some o→s6.heap.get? b=some o)→zt s5 s6→St fp' wr' es s6:=λq1 q2 q3=>I.frame q1 q2 λi g _ e=>q3 i g e
   have hSt4:St fp' wr' ds s4:=keepS hSt3 (λb ob hb' e=>l4 b ob e (ap' b hb').1 (ap' b hb').2.1 (ap' b hb').2.2.1) g4
   have seq4:∀b ob,s3.heap.get? b=some ob→(∃xs n,ob.data = .seq xs n)→¬W.X b→s4.heap.get? b=some ob:=λb ob e ⟨xs,n,hd⟩ nx =>
    l4 b ob e nx (zR rl3 e λes n q=>by rw[hd]at q;cases q) (zaF rl3 e λv q=>by rw[hd]at q;cases q)
   have hDl4:s4.heap.PlainList s2.heap.objs.size (List.toArray vs):=by
    refine xE hDl3 λq e=>?_;clear hDl3
    exact⟨q,seq4 _ _ e ⟨_,_,rfl⟩ (rl1.ownX hoD)⟩
   have hdn4:RVs s4.heap W.X dn vs:=hdn3.flat_to hfd λb ob e hc=>seq4 b ob e hc.2 λq=>(W.xcls rl3.step.g q e).1 hc.1
   have fpx:∀{s5 s6:Shared},Stp W s5 s6→∀b o,fp' b→s5.heap.get? b=some o→s6.heap.get? b=some o:=λx b ob h e=>x.evo b ob e (ap' b h).1
   refine zf hcL λt hb1 hcL=>?_
   ·refine htest c' ic _ t hb1 _ s4 rl4 _ _ λs6 x6=>?_
    have rl6:=rl4.mono x6
    have hSt6:=keepS hSt4 (fpx x6) x6.gens
    have hDl6:=zz (rl1.ownX hoD) x6 hDl4
    have hdn6:=hdn4.step rl4.step.g x6 λ_ q=>q
    cases t with
    | false =>
     exact⟨ds.length,by simp only[List.length_cons]at hm;exact Nat.le_of_eq hm,fp',wr',ds,_,dn,vs,rest,rfl,by simp[hxl,hn],rl6,hSt6,nw',ap',hDl6,hdn6,hfd,hfds.2,hcL,hys,by simp only[List.length_cons]at hsz;exact Nat.le_of_lt hsz⟩
    | true =>
     refine zf (show(eltF (xs.map (λd=>some (.fz d))++cs.map λd=>some (.fz d))).bind (λy=>if zbp y then(zbO n (cs.map λd=>some (.fz d)) test eltF ds).map (y::·) else none)=some rest from hcL) λy he hcL=>?_
     ·refine zay hcL λhfy hcL=>?_
      ·refine xEA (zhf hcL) λrest' hcr q_=>?_
       ·subst q_
        refine helt c' ic _ y he _ s6 rl6 _ _ λu s7 x7 r7=>?_
        have rl7:=rl6.mono x7
        have hSt7:=keepS hSt6 (fpx x7) x7.gens
        have hDl7:=zz (rl1.ownX hoD) x7 hDl6
        have hdn7:=hdn6.step rl6.step.g x7 λ_ q=>q
        refine wpAny_list_append_plain hDl7 (λh' p1 p2=>?_) (by
         have:=hdn7.len
         simp only[List.size_toArray,this]
         exact Nat.le_trans (Nat.le_trans (Nat.le_add_right _ _) hsz) (by decide))
        have p1':h'.PlainList s2.heap.objs.size (List.toArray (vs++[u])):=by simpa using p1
        have rl8:=rl7.turnOwn hoD hnsD hDl7 p1' p2
        have sq8:∀b ob,s7.heap.get? b=some ob→b≠s2.heap.objs.size→h'.get? b=some ob:=λb ob e hne=>(p2.2 b hne).trans e
        refine⟨ds.length,by simp only[List.length_cons]at hm;exact Nat.le_of_eq hm,fp',wr',ds,_,dn++[y],vs++[u],rest',rfl,by simp[hxl,hn],rl8,?_,nw',ap',p1',?_,zaX hfd (by simp[zmr,zde,hfy]),hfds.2,hcr,by simpa using hys,by simp only[List.length_cons,List.length_append,List.length_nil]at hsz ⊢;lia⟩
        ·exact I.frame hSt7 (λb ob h e=>sq8 b ob e (ap' b h).2.2.2) λi g _ e=>e
        ·refine(hdn7.append (RVs.one r7)).flat_to (zaX hfd (by simp[zmr,zde,hfy])) λb ob e hc=>sq8 b ob e ?_
         rintro rfl
         refine xE hDl7 λq e2=>?_;clear hDl7
         rw[e]at e2;cases e2;exact absurd (Value.type.inj hc.1) (by decide)
theorem EvU.nu {elt target iter:Expr}{ifs:List Expr}{scope:Scope}{pos:Pos}{ys:List D} (hu:EvU W c ρ (.ListComp elt [⟨target,iter,ifs,0⟩] scope pos) scope iter.pos (eval iter c.env) ys):Ev W .nu c ρ (.ListComp elt [⟨target,iter,ifs,0⟩] scope pos) (.list ys):=λo s rl Q E k=>by
 rw[eval_ListComp]
 refine hu none o s rl _ _ λCl D s3 mm r hmm _ hk=>⟨mm,hmm,λh' hs'=>?_⟩
 refine xA (hk h' hs') λT r=>?_
 exact k _ _ T r
theorem zhM {elt target iter:Expr}{ifs:List Expr}{scope:Scope}{pos:Pos}{ys:List D} (hu:EvU W c ρ (.ListComp elt [⟨target,iter,ifs,0⟩] scope pos) scope iter.pos (eval iter c.env) ys)
  {i:Nat}{nm:Str}{p spos:Pos} (hi:i < c.no) (hnm:c.ns[i]? = some nm)
  (hs:swapsWith (.ListComp elt [⟨target,iter,ifs,0⟩] scope pos) (some (.Name nm p)) spos.line c.env=pure true) :
  Ex1 W c ρ (.Assign [.Name nm p] (.ListComp elt [⟨target,iter,ifs,0⟩] scope pos) spos) .next (zaU ρ i (.fz (.list ys))):=λo s rl E=>by
 rw[exec_Assign_Name_used _ _ _ _ hs]
 refine wpAny_bind (wpAny_standAt (wpAny_bind ?_))
 show wpAny _ _ (do let _ ← comprehension (.ListComp elt [⟨target,iter,ifs,0⟩] scope pos) scope c.env iter.pos (newList []) false (eval iter c.env) (some (assign (.Name nm p) c.env))) _ _ s
 refine wpAny_bind (hu (some (assign (.Name nm p) c.env)) o s rl _ _ λCl D s3 mm r hmm hnew hk=>?_)
 refine xA (hk s3.heap (Heap.SameBut.refl _ _)) λT3 r3=>?_
 show wpAny _ _ (assign (.Name nm p) c.env (.ref D)) _ _ s3
 refine wpAny_assign_Name (zbs rl T3 hi hnm (r3.weak λa q=>?_) λs4 rl4 l4 g4 al4=>?_)
 ·rcases q with q | ⟨j,q⟩
  ·exact .inl q
  ·exact .inr (zcD rl q)
 have neL:Cl≠c.env.locals:=λe=>by
  refine zaI rl.loc λm ob _ _ h _=>?_
  rw[e,h]at hnew;cases hnew
 have neC:∀x k,c.env.cells.lookup x=some k→Cl≠k:=λx k hx e=>by
  refine zav (rl.cel x k hx) λv ob h _=>?_
  rw[e,h]at hnew;cases hnew
 refine zcb hmm λob es ep ho hd hrest=>?_;clear hmm
 have h4:=l4 Cl ob ho neL neC
 refine⟨mm,⟨ob,es,ep,h4,hd,hrest⟩,λh' hs'=>?_⟩
 have T4:Nx W (λb=>b=Cl) (λ_=>False) s4 {s4 with heap:=h'}:={
  evo:=λb o e _ hb=>(hs'.2 b hb).trans e
  g:=W.keep rl4.step.g λb o e q=>by
   rw[hs'.2 b ?_]
   ·exact e
   ·rintro rfl
    rcases q with q | ⟨_,vs,q⟩
    ·exact W.sy rl.step.g q hnew
    ·rw[h4]at e;cases e;rw[hd]at q;cases q
  os:=rfl
  gens:=λi g _ e=>e
  bare:=rl4.step.bare
  toks:=Nat.le_refl _
  cls:=λb o hb e=>by
   rw[hb,h4]at e;cases e
   exact .inr ⟨_,_,hd⟩
  wx:=λb hb q=>by
   rw[hb]at q
   exact W.sy rl.step.g (W.xsy _ q) hnew}
 have bnew:c.base.heap.get? Cl=none:=(rl.step.aliv rl.ok.good).none hnew
 have rl5:=rl4.nx T4 (λb hb=>by rw[hb];exact bnew) (λi hi=>hi.elim) (λb hb=>by rw[hb];exact neL) (λb hb=>by rw[hb];exact neC)
 refine wpAny_pure (wpAny_pure ⟨_,rl5,rfl,?_,zaj nofun,?_,?_⟩)
 ·intro b o e h1 h2 h3 hx
  show h'.get? b=some o
  rw[hs'.2 b (by rintro rfl;rw[hnew]at e;cases e)]
  exact l4 b o (T3.evo b o e hx) h1 h2
 ·exact λi g e=>g4 i g (T3.gens i g e)
 ·intro b hb
  have:=al4 b ((T3.aliv rl.step.g) b hb)
  show h'.get? b≠none
  by_cases q:b=Cl
  ·rw[q]at hb;exact absurd hnew hb
  ·rw[hs'.2 b q];exact this
end
end Mine.Internal
end

noncomputable section
set_option backward.match.sparseCases false
open PySem PySem.Calls PyProof.Rows PySem.SeqAt
namespace Mine.Internal
structure Sc where
 names:List (Str×NameKind)
 ns:List Str
 no:Nat
noncomputable def Sc.kind (sc:Sc) (x:Str):Option NameKind:=sc.names.lookup x
noncomputable def Sc.glob (sc:Sc) (x:Str):Bool:=sc.kind x == some .globalImplicit
noncomputable def Sc.at_ (sc:Sc) (i:Nat) (x:Str):Bool:=sc.ns[i]? == some x
noncomputable def zh:Nat→Str
 | 0=>"len" | 1=>"list" | 2=>"sum" | 3=>"sorted" | 4=>"max" | 5=>"chr" | 6=>"ord" | 7=>"divmod" | 8=>"range" | 9=>"reversed"
 | 20=>"_iter_escaped_chars" | 21=>"_strip_quoted_realnames" | 22=>"_check_parenthesis" | 23=>"_div2n1n" | 24=>"_div3n2n"
 | 25=>"_int2digits" | 26=>"_digits2int" | 27=>"_divmod_pos" | 28=>"int_divmod" | 30=>"in_table_b1" | 31=>"map_table_b3"
 | 40=>"_law_prepared" | 41=>"_law_landing" | 42=>"_law_balls" | 43=>"_law_leap" | 44=>"_law_runs" | 45=>"_law_meet"
 | 60=>"_law_mates" | 61=>"_law_first" | 62=>"_law_below" | 63=>"_law_taken" | 64=>"_law_six" | 50=>"_DIV_LIMIT"
 | _=>""
section
variable {α:Type}
noncomputable def b0 (l:List α):Bool:=match l with
 | []=>true
 | _::_=>false
noncomputable def bC (l:List α) (f:α→List α→Bool):Bool:=match l with
 | []=>false
 | a::r=>f a r
noncomputable def b1 (l:List α) (f:α→Bool):Bool:=bC l λa r=>b0 r && f a
noncomputable def b2 (l:List α) (f:α→α→Bool):Bool:=bC l λa r=>b1 r (f a)
theorem zbZ {l:List α} (h:b0 l=true):l=[]:=by cases l<;>first | rfl | cases h
theorem zjK {l:List α}{f:α→List α→Bool} (h:bC l f=true):∃a r,l=a::r∧f a r=true:=by
 cases l<;>first | exact⟨_,_,rfl,h⟩ | cases h
theorem zeC {l:List α}{f:α→Bool} (h:b1 l f=true):∃a,l=[a]∧f a=true:=by
 refine zav (zjK h) λa r q2_ h1=>?_;subst q2_
 refine xA (zeO h1) λh2 h3=>?_
 exact⟨a,by rw[zbZ h2],h3⟩
theorem zri {l:List α}{f:α→α→Bool} (h:b2 l f=true):∃a b,l=[a,b]∧f a b=true:=by
 refine zav (zjK h) λa r q2_ h1=>?_;subst q2_
 refine xEA (zeC h1) λb q1_ h2=>?_;subst q1_
 exact⟨a,b,rfl,h2⟩
@[elab_as_elim] theorem b1E {P:List α→Prop}{l:List α}{f:α→Bool} (h:b1 l f=true) (k:∀a,f a=true→P [a]):P l :=
 (zeC h).elim λa y=>y.1▸k a y.2
@[elab_as_elim] theorem b2E {P:List α→Prop}{l:List α}{f:α→α→Bool} (h:b2 l f=true) (k:∀a b,f a b=true→P [a,b]):P l :=
 (zri h).elim λa y=>y.elim λb y=>y.1▸k a b y.2
@[elab_as_elim] theorem bCE {P:List α→Prop}{l:List α}{f:α→List α→Bool} (h:bC l f=true) (k:∀a b,f a b=true→P (a::b)):P l :=
 (zjK h).elim λa y=>y.elim λb y=>y.1▸k a b y.2
end
noncomputable def onE (e:Expr) (fBop:BoolOp→List Expr→Bool) (fBin:Expr→Operator→Expr→Bool) (fUn:UnaryOp→Expr→Bool) (fIf:Expr→Expr→Expr→Bool) (fCmp:Expr→List CmpOp→List Expr→Bool) (fCall:Expr→List Expr→List Keyword→Pos→Bool) (fAttr:Expr→Str→Pos→Bool) (fSub:Expr→Expr→Bool) (fSlc:Option Expr→Option Expr→Option Expr→Bool) (fTup:List Expr→Bool) (fList:List Expr→Bool) (fComp:Expr→List Comprehension→Scope→Bool) (fName:Str→Pos→Bool) (fConst:Const→Bool):Bool:=match e with
 | .BoolOp a0 a1 _=>fBop a0 a1
 | .BinOp a0 a1 a2 _=>fBin a0 a1 a2
 | .UnaryOp a0 a1 _=>fUn a0 a1
 | .IfExp a0 a1 a2 _=>fIf a0 a1 a2
 | .Compare a0 a1 a2 _=>fCmp a0 a1 a2
 | .Call a0 a1 a2 a3=>fCall a0 a1 a2 a3
 | .Attribute a0 a1 a2=>fAttr a0 a1 a2
 | .Subscript a0 a1 _=>fSub a0 a1
 | .Slice a0 a1 a2 _=>fSlc a0 a1 a2
 | .Tuple a0 _ _=>fTup a0
 | .List a0 _=>fList a0
 | .ListComp a0 a1 a2 _=>fComp a0 a1 a2
 | .Name a0 a1=>fName a0 a1
 | .Constant a0 _ _=>fConst a0
 | _=>false
noncomputable def zvE (e:Expr) (f:BoolOp→List Expr→Bool):Bool:=onE e f (λ_ _ _=>false) (λ_ _=>false) (λ_ _ _=>false) (λ_ _ _=>false) (λ_ _ _ _=>false) (λ_ _ _=>false) (λ_ _=>false) (λ_ _ _=>false) (λ_=>false) (λ_=>false) (λ_ _ _=>false) (λ_ _=>false) (λ_=>false)
noncomputable def zxD (e:Expr) (f:Expr→Operator→Expr→Bool):Bool:=onE e (λ_ _=>false) f (λ_ _=>false) (λ_ _ _=>false) (λ_ _ _=>false) (λ_ _ _ _=>false) (λ_ _ _=>false) (λ_ _=>false) (λ_ _ _=>false) (λ_=>false) (λ_=>false) (λ_ _ _=>false) (λ_ _=>false) (λ_=>false)
noncomputable def xUn (e:Expr) (f:UnaryOp→Expr→Bool):Bool:=onE e (λ_ _=>false) (λ_ _ _=>false) f (λ_ _ _=>false) (λ_ _ _=>false) (λ_ _ _ _=>false) (λ_ _ _=>false) (λ_ _=>false) (λ_ _ _=>false) (λ_=>false) (λ_=>false) (λ_ _ _=>false) (λ_ _=>false) (λ_=>false)
noncomputable def xIf (e:Expr) (f:Expr→Expr→Expr→Bool):Bool:=onE e (λ_ _=>false) (λ_ _ _=>false) (λ_ _=>false) f (λ_ _ _=>false) (λ_ _ _ _=>false) (λ_ _ _=>false) (λ_ _=>false) (λ_ _ _=>false) (λ_=>false) (λ_=>false) (λ_ _ _=>false) (λ_ _=>false) (λ_=>false)
noncomputable def zxC (e:Expr) (f:Expr→List CmpOp→List Expr→Bool):Bool:=onE e (λ_ _=>false) (λ_ _ _=>false) (λ_ _=>false) (λ_ _ _=>false) f (λ_ _ _ _=>false) (λ_ _ _=>false) (λ_ _=>false) (λ_ _ _=>false) (λ_=>false) (λ_=>false) (λ_ _ _=>false) (λ_ _=>false) (λ_=>false)
noncomputable def zmz (e:Expr) (f:Expr→List Expr→List Keyword→Pos→Bool):Bool:=onE e (λ_ _=>false) (λ_ _ _=>false) (λ_ _=>false) (λ_ _ _=>false) (λ_ _ _=>false) f (λ_ _ _=>false) (λ_ _=>false) (λ_ _ _=>false) (λ_=>false) (λ_=>false) (λ_ _ _=>false) (λ_ _=>false) (λ_=>false)
noncomputable def zpc (e:Expr) (f:Expr→Str→Pos→Bool):Bool:=onE e (λ_ _=>false) (λ_ _ _=>false) (λ_ _=>false) (λ_ _ _=>false) (λ_ _ _=>false) (λ_ _ _ _=>false) f (λ_ _=>false) (λ_ _ _=>false) (λ_=>false) (λ_=>false) (λ_ _ _=>false) (λ_ _=>false) (λ_=>false)
noncomputable def zrD (e:Expr) (f:Expr→Expr→Bool):Bool:=onE e (λ_ _=>false) (λ_ _ _=>false) (λ_ _=>false) (λ_ _ _=>false) (λ_ _ _=>false) (λ_ _ _ _=>false) (λ_ _ _=>false) f (λ_ _ _=>false) (λ_=>false) (λ_=>false) (λ_ _ _=>false) (λ_ _=>false) (λ_=>false)
noncomputable def zvB (e:Expr) (f:Option Expr→Option Expr→Option Expr→Bool):Bool:=onE e (λ_ _=>false) (λ_ _ _=>false) (λ_ _=>false) (λ_ _ _=>false) (λ_ _ _=>false) (λ_ _ _ _=>false) (λ_ _ _=>false) (λ_ _=>false) f (λ_=>false) (λ_=>false) (λ_ _ _=>false) (λ_ _=>false) (λ_=>false)
noncomputable def zro (e:Expr) (f:List Expr→Bool):Bool:=onE e (λ_ _=>false) (λ_ _ _=>false) (λ_ _=>false) (λ_ _ _=>false) (λ_ _ _=>false) (λ_ _ _ _=>false) (λ_ _ _=>false) (λ_ _=>false) (λ_ _ _=>false) f (λ_=>false) (λ_ _ _=>false) (λ_ _=>false) (λ_=>false)
noncomputable def zrE (e:Expr) (f:List Expr→Bool):Bool:=onE e (λ_ _=>false) (λ_ _ _=>false) (λ_ _=>false) (λ_ _ _=>false) (λ_ _ _=>false) (λ_ _ _ _=>false) (λ_ _ _=>false) (λ_ _=>false) (λ_ _ _=>false) (λ_=>false) f (λ_ _ _=>false) (λ_ _=>false) (λ_=>false)
noncomputable def zmx (e:Expr) (f:Expr→List Comprehension→Scope→Bool):Bool:=onE e (λ_ _=>false) (λ_ _ _=>false) (λ_ _=>false) (λ_ _ _=>false) (λ_ _ _=>false) (λ_ _ _ _=>false) (λ_ _ _=>false) (λ_ _=>false) (λ_ _ _=>false) (λ_=>false) (λ_=>false) f (λ_ _=>false) (λ_=>false)
noncomputable def zcu (e:Expr) (f:Str→Pos→Bool):Bool:=onE e (λ_ _=>false) (λ_ _ _=>false) (λ_ _=>false) (λ_ _ _=>false) (λ_ _ _=>false) (λ_ _ _ _=>false) (λ_ _ _=>false) (λ_ _=>false) (λ_ _ _=>false) (λ_=>false) (λ_=>false) (λ_ _ _=>false) f (λ_=>false)
noncomputable def zeQ (e:Expr) (f:Const→Bool):Bool:=onE e (λ_ _=>false) (λ_ _ _=>false) (λ_ _=>false) (λ_ _ _=>false) (λ_ _ _=>false) (λ_ _ _ _=>false) (λ_ _ _=>false) (λ_ _=>false) (λ_ _ _=>false) (λ_=>false) (λ_=>false) (λ_ _ _=>false) (λ_ _=>false) f
theorem zjZ {e e':Expr}{f:BoolOp→List Expr→Bool}{P:Prop} (kk:∀a0 a1 p,e = .BoolOp a0 a1 p→f a0 a1=true→P) (he:e=e') (h:zvE e' f=true):P:=by
 cases e'<;>first | exact kk _ _ _ he h | exact(Bool.false_ne_true h).elim
theorem zpb {e e':Expr}{f:Expr→Operator→Expr→Bool}{P:Prop} (kk:∀a0 a1 a2 p,e = .BinOp a0 a1 a2 p→f a0 a1 a2=true→P) (he:e=e') (h:zxD e' f=true):P:=by
 cases e'<;>first | exact kk _ _ _ _ he h | exact(Bool.false_ne_true h).elim
theorem zoe {e e':Expr}{f:UnaryOp→Expr→Bool}{P:Prop} (kk:∀a0 a1 p,e = .UnaryOp a0 a1 p→f a0 a1=true→P) (he:e=e') (h:xUn e' f=true):P:=by
 cases e'<;>first | exact kk _ _ _ he h | exact(Bool.false_ne_true h).elim
theorem zrF {e e':Expr}{f:Expr→Expr→Expr→Bool}{P:Prop} (kk:∀a0 a1 a2 p,e = .IfExp a0 a1 a2 p→f a0 a1 a2=true→P) (he:e=e') (h:xIf e' f=true):P:=by
 cases e'<;>first | exact kk _ _ _ _ he h | exact(Bool.false_ne_true h).elim
theorem zjY {e e':Expr}{f:Expr→List CmpOp→List Expr→Bool}{P:Prop} (kk:∀a0 a1 a2 p,e = .Compare a0 a1 a2 p→f a0 a1 a2=true→P) (he:e=e') (h:zxC e' f=true):P:=by
 cases e'<;>first | exact kk _ _ _ _ he h | exact(Bool.false_ne_true h).elim
theorem zmy {e e':Expr}{f:Expr→List Expr→List Keyword→Pos→Bool}{P:Prop} (kk:∀a0 a1 a2 a3,e = .Call a0 a1 a2 a3→f a0 a1 a2 a3=true→P) (he:e=e') (h:zmz e' f=true):P:=by
 cases e'<;>first | exact kk _ _ _ _ he h | exact(Bool.false_ne_true h).elim
theorem zhU {e:Expr}{f:Expr→List Expr→List Keyword→Pos→Bool} (h:zmz e f=true):∃a0 a1 a2 a3,e = .Call a0 a1 a2 a3∧f a0 a1 a2 a3=true:=zmy (λa0 a1 a2 a3 h1 h2=>⟨a0,a1,a2,a3,h1,h2⟩) rfl h
theorem zmB {e e':Expr}{f:Expr→Str→Pos→Bool}{P:Prop} (kk:∀a0 a1 a2,e = .Attribute a0 a1 a2→f a0 a1 a2=true→P) (he:e=e') (h:zpc e' f=true):P:=by
 cases e'<;>first | exact kk _ _ _ he h | exact(Bool.false_ne_true h).elim
theorem zmA {e:Expr}{f:Expr→Str→Pos→Bool} (h:zpc e f=true):∃a0 a1 a2,e = .Attribute a0 a1 a2∧f a0 a1 a2=true:=zmB (λa0 a1 a2 h1 h2=>⟨a0,a1,a2,h1,h2⟩) rfl h
theorem zhk {e e':Expr}{f:Expr→Expr→Bool}{P:Prop} (kk:∀a0 a1 p,e = .Subscript a0 a1 p→f a0 a1=true→P) (he:e=e') (h:zrD e' f=true):P:=by
 cases e'<;>first | exact kk _ _ _ he h | exact(Bool.false_ne_true h).elim
theorem zoX {e:Expr}{f:Expr→Expr→Bool} (h:zrD e f=true):∃a0 a1 p,e = .Subscript a0 a1 p∧f a0 a1=true:=zhk (λa0 a1 p h1 h2=>⟨a0,a1,p,h1,h2⟩) rfl h
theorem zoZ {e e':Expr}{f:Option Expr→Option Expr→Option Expr→Bool}{P:Prop} (kk:∀a0 a1 a2 p,e = .Slice a0 a1 a2 p→f a0 a1 a2=true→P) (he:e=e') (h:zvB e' f=true):P:=by
 cases e'<;>first | exact kk _ _ _ _ he h | exact(Bool.false_ne_true h).elim
theorem zoY {e:Expr}{f:Option Expr→Option Expr→Option Expr→Bool} (h:zvB e f=true):∃a0 a1 a2 p,e = .Slice a0 a1 a2 p∧f a0 a1 a2=true:=zoZ (λa0 a1 a2 p h1 h2=>⟨a0,a1,a2,p,h1,h2⟩) rfl h
theorem zhj {e e':Expr}{f:List Expr→Bool}{P:Prop} (kk:∀a0 k p,e = .Tuple a0 k p→f a0=true→P) (he:e=e') (h:zro e' f=true):P:=by
 cases e'<;>first | exact kk _ _ _ he h | exact(Bool.false_ne_true h).elim
theorem zhi {e:Expr}{f:List Expr→Bool} (h:zro e f=true):∃a0 k p,e = .Tuple a0 k p∧f a0=true:=zhj (λa0 k p h1 h2=>⟨a0,k,p,h1,h2⟩) rfl h
theorem zmu {e e':Expr}{f:List Expr→Bool}{P:Prop} (kk:∀a0 p,e = .List a0 p→f a0=true→P) (he:e=e') (h:zrE e' f=true):P:=by
 cases e'<;>first | exact kk _ _ he h | exact(Bool.false_ne_true h).elim
theorem zmw {e e':Expr}{f:Expr→List Comprehension→Scope→Bool}{P:Prop} (kk:∀a0 a1 a2 p,e = .ListComp a0 a1 a2 p→f a0 a1 a2=true→P) (he:e=e') (h:zmx e' f=true):P:=by
 cases e'<;>first | exact kk _ _ _ _ he h | exact(Bool.false_ne_true h).elim
theorem zhT {e:Expr}{f:Expr→List Comprehension→Scope→Bool} (h:zmx e f=true):∃a0 a1 a2 p,e = .ListComp a0 a1 a2 p∧f a0 a1 a2=true:=zmw (λa0 a1 a2 p h1 h2=>⟨a0,a1,a2,p,h1,h2⟩) rfl h
theorem zct {e e':Expr}{f:Str→Pos→Bool}{P:Prop} (kk:∀a0 a1,e = .Name a0 a1→f a0 a1=true→P) (he:e=e') (h:zcu e' f=true):P:=by
 cases e'<;>first | exact kk _ _ he h | exact(Bool.false_ne_true h).elim
theorem zac {e:Expr}{f:Str→Pos→Bool} (h:zcu e f=true):∃a0 a1,e = .Name a0 a1∧f a0 a1=true:=zct (λa0 a1 h1 h2=>⟨a0,a1,h1,h2⟩) rfl h
theorem zjX {e e':Expr}{f:Const→Bool}{P:Prop} (kk:∀a0 k p,e = .Constant a0 k p→f a0=true→P) (he:e=e') (h:zeQ e' f=true):P:=by
 cases e'<;>first | exact kk _ _ _ he h | exact(Bool.false_ne_true h).elim
theorem zcw {e:Expr}{f:Const→Bool} (h:zeQ e f=true):∃a0 k p,e = .Constant a0 k p∧f a0=true:=zjX (λa0 k p h1 h2=>⟨a0,k,p,h1,h2⟩) rfl h
noncomputable def zdR (e:Expr) (f:Str→List Expr→Bool):Bool:=zmz e λg es ks _=>b0 ks && zcu g λx _=>f x es
theorem zbF {e:Expr}{f:Str→List Expr→Bool} (h:zdR e f=true):∃x es p q,e = .Call (.Name x q) es [] p∧f x es=true:=by
 refine zaI (zhU h) λg es ks p q4_ h1=>?_;subst q4_
 refine zj h1 λh2 h3=>?_
 refine zav (zac h3) λx q q2_ h4=>?_;subst q2_
 exact⟨x,es,p,q,by rw[zbZ h2],h4⟩
noncomputable def zmt (e:Expr) (f:Expr→Str→List Expr→Bool):Bool:=zmz e λg es ks p=>b0 ks && zpc g λx n q=>(q.endLine == p.line) && f x n es
theorem zfv {e:Expr}{f:Expr→Str→List Expr→Bool} (h:zmt e f=true):∃x n es p q,e = .Call (.Attribute x n q) es [] p∧(q.endLine == p.line)=true∧f x n es=true:=by
 refine zaI (zhU h) λg es ks p q4_ h1=>?_;subst q4_
 refine zj h1 λh2 h3=>?_
 refine zaA (zmA h3) λx n q q3_ h4=>?_;subst q3_
 refine zj h4 λh5 h6=>?_
 exact⟨x,n,es,p,q,by rw[zbZ h2],h5,h6⟩
noncomputable def zym (c:Const) (f:Str→Bool):Bool:=match c with
 | .str x=>f x
 | _=>false
noncomputable def zyn (c:Const) (f:Int→Bool):Bool:=match c with
 | .int x=>f x
 | _=>false
noncomputable def zuE (c:Const) (f:Bool→Bool):Bool:=match c with
 | .bool x=>f x
 | _=>false
noncomputable def zuD (c:Const):Bool:=match c with
 | .none=>true
 | _=>false
theorem zra {c:Const}{f:Str→Bool} (h:zym c f=true):∃x,c = .str x∧f x=true:=by cases c<;>first | exact⟨_,rfl,h⟩ | exact(Bool.false_ne_true h).elim
theorem zrb {c:Const}{f:Int→Bool} (h:zyn c f=true):∃x,c = .int x∧f x=true:=by cases c<;>first | exact⟨_,rfl,h⟩ | exact(Bool.false_ne_true h).elim
theorem znP {c:Const}{f:Bool→Bool} (h:zuE c f=true):∃x,c = .bool x∧f x=true:=by cases c<;>first | exact⟨_,rfl,h⟩ | exact(Bool.false_ne_true h).elim
theorem znO {c:Const} (h:zuD c=true):c = .none:=by cases c<;>first | rfl | exact(Bool.false_ne_true h).elim
noncomputable def zms (e:Expr) (f:Str→Bool):Bool:=zeQ e λc=>zym c f
theorem zfu {e:Expr}{f:Str→Bool} (h:zms e f=true):∃x k p,e = .Constant (.str x) k p∧f x=true:=by
 refine zaA (zcw h) λc k p q3_ h1=>?_;subst q3_
 refine xEA (zra h1) λx q1_ h2=>?_;subst q1_
 exact⟨x,k,p,rfl,h2⟩
noncomputable def zwL (d:D) (e:Expr):Bool:=match d with
 | .none=>zeQ e zuD
 | .bool b=>zeQ e λc=>zuE c λb'=>b == b'
 | .int i=>zeQ e λc=>zyn c λj=>i == j
 | .str x=>zms e λy=>y == sv x
 | .list _=>false
 | .tup _=>false
 | .tk _ _=>false
noncomputable def mN (sc:Sc):List Expr→List Nat→Bool
 | [],is=>b0 is
 | t::ts,is=>zcu t λx _=>bC is λi is=>decide (i < sc.no) && (sc.at_ i x && mN sc ts is)
noncomputable def ztJ (sc:Sc) (t:Expr) (n:Nat) (is:List Nat):Bool:=if n=0 then zcL t && mN sc [t] is else zro t λts=>mN sc ts is
noncomputable def zeU:Expr→List Str
 | .Name x _=>[x]
 | .Tuple ts _ _=>ts.filterMap λ| .Name x _=>some x | _=>none
 | _=>[]
noncomputable def zhF (sc:Sc) (scope:Scope) (ns:List Str) (nt:Nat):Sc :=
 {names:=scope.names.map λ(n,k)=>if (k == .free && sc.kind n == some .cell) then(n,.cell) else(n,k),ns:=ns,no:=nt}
noncomputable def zlS (sc:Sc) (scope:Scope) (ns:List Str) (nt:Nat):Bool :=
 scope.kind == .function && decide (scope.names.map (·.1)).Nodup && decide ns.Nodup && ns.all (λx=>!(x == ("__debug__" : Str))) &&
 (ns.take nt).all (λx=>decide ((x,NameKind.local)∈scope.names) || decide ((x,NameKind.cell)∈scope.names)) &&
 (ns.drop nt).all (λx=>decide ((x,NameKind.free)∈scope.names) && !(x == ("__classdict__" : Str)) && sc.kind x != some .local) &&
 scope.names.all (λp=>p.2 != .free || decide (p.1∈ns.drop nt))
noncomputable def zgF:Expr→Bool
 | .Set ..=>false
 | _=>true
noncomputable def zgz:Expr→Bool
 | .UnaryOp .Not _ _=>false
 | .BoolOp ..=>false
 | .IfExp ..=>false
 | .Compare ..=>false
 | _=>true
noncomputable def zkX:S→Bool
 | .call f _=>f != 9
 | .it _=>true
noncomputable def zrv (f:Nat):Bool:=f != 50 && f != 99 && f != 20 && f != 8 && f != 9 && f != 1063
noncomputable def ztS (t:T):Bool:=match t with
 | .cmp ..=>true
 | _=>false
noncomputable def znr:List (List Nat)→List Expr→Bool
 | [],es=>b0 es
 | x::xs,es=>bC es λe es=>zms e (λy=>y == sv x) && znr xs es
noncomputable def ztT (sc:Sc) (scope:Scope) (t:Expr) (cn:List Str):Sc:=zhF sc scope (zeU t++cn) (zeU t).length
noncomputable def cmA (sc:Sc) (scope:Scope) (n:Nat) (cn:List Str) (src:S) (g:Comprehension):Bool:=g.is_async == 0 && (decide ((zeU g.target).length=if n=0 then 1 else n) && (zlS sc scope (zeU g.target++cn) (zeU g.target).length &&
 (zgF g.iter && (zkX src && ztJ (ztT sc scope g.target cn) g.target n (List.range' 0 (zeU g.target).length)))))
noncomputable def zkY (t:T):Bool:=match t with
 | .lit d=>zwL d (.Constant .none 0 default)
 | _=>false
theorem zff {t:T} (h:zkY t=true):t = .lit .none:=by
 cases t with
 | lit d=>cases d<;>first | rfl | exact(Bool.false_ne_true h).elim
 | _=>exact(Bool.false_ne_true h).elim
noncomputable def oE (t:T) (f:Expr→Bool) (o:Option Expr):Bool:=match o with
 | none=>zkY t
 | some e=>f e
mutual
noncomputable def mE (sc:Sc):T→Expr→Bool
 | .lit d,e=>zwL d e
 | .var i,e=>zcu e λx _=>sc.at_ i x
 | .un o t,e=>xUn e λo' e=>o == o' && mE sc t e
 | .bin o l r,e=>zxD e λl' o' r'=>o == o' && (mE sc l l' && mE sc r r')
 | .cmp o l r,e=>zxC e λl' os rs=>b1 os λo'=>b1 rs λr'=>o == o' && (!behindInMarks o r' && (mE sc l l' && mE sc r r'))
 | .and l r,e=>zvE e λo es=>o == .And && b2 es λl' r'=>mE sc l l' && mE sc r r'
 | .or _ _,_=>false
 | .ife c a b,e=>xIf e λc' a' b'=>mQ sc c c' && (mE sc a a' && mE sc b b')
 | .sub e i,e'=>zrD e' λe' i'=>mE sc e e' && mE sc i i'
 | .slc e lo hi st,e'=>zrD e' λe' s=>zvB s λlo' hi' st'=>mE sc e e' && (oE lo (λx=>mE sc lo x) lo' && (oE hi (λx=>mE sc hi x) hi' && oE st (λx=>mE sc st x) st'))
 | .tup es,e=>zro e λes'=>ze es' && (decide (es.length≤1000) && mEs sc es es')
 | .list es,e=>zrE e λes'=>ze es' && (decide (es.length≤1000) && mEs sc es es')
 | .comp n caps src ifs elt,e=>zmx e λelt' gs scope=>b1 gs λg=>(caps.mapM (sc.ns[·]?)).any λcn=>cmA sc scope n cn src g && (mR sc src g.iter && (mQs (ztT sc scope g.target cn) ifs g.ifs && mE (ztT sc scope g.target cn) elt elt'))
 | .call f es,e=>if f=50 then b0 es && zcu e λx _=>x == zh 50 && sc.glob x else
   zdR e λx es'=>zrv f && (x == zh f && (sc.glob x && (ze es' && mEs sc es es')))
 | .callt f t xs,e=>zdR e λx es=>bC es λe0 es'=>x == zh f && (sc.glob x && (ze (e0::es') && (znr xs es' && mE sc t e0)))
 | .lrg es,e=>zdR e λx es1=>b1 es1 λe1=>zdR e1 λy es'=>x == zh 1 && (y == zh 8 && (sc.glob x && (sc.glob y && (ze es' && mEs sc es es'))))
 | .meth m t es,e=>zmt e λe' name es'=>name == zld m && (zci e' && (ze es' && (decide (es'.length < 30) && (mE sc t e' && mEs sc es es'))))
 | .repl t a b,e=>zmt e λe' name es'=>b2 es' λa' b'=>name == ("replace" : Str) && (zci e' && (ze [a',b'] && (mE sc t e' && (mE sc a a' && mE sc b b'))))
 | .srt _,_=>false
noncomputable def mEs (sc:Sc):List T→List Expr→Bool
 | [],es=>b0 es
 | t::ts,es=>bC es λe es=>mE sc t e && mEs sc ts es
noncomputable def mQ (sc:Sc):Q→Expr→Bool
 | .val t,e=>(ztS t || zgz e) && mE sc t e
 | .not q,e=>xUn e λo e=>o == .Not && mQ sc q e
 | .and l r,e=>zvE e λo es=>o == .And && b2 es λl' r'=>mQ sc l l' && mQ sc r r'
 | .or _ _,_=>false
noncomputable def mQs (sc:Sc):List Q→List Expr→Bool
 | [],es=>b0 es
 | q::qs,es=>b0 qs && b1 es λe=>mQ sc q e
noncomputable def mR (sc:Sc):S→Expr→Bool
 | .it t,e=>mE sc t e
 | .call f ts,e=>zdR e λx es'=>x == zh f && (sc.glob x && (ze es' && mEs sc ts es'))
end
noncomputable def zkx:List (List Nat)→List Tok→List Value
 | x::xs,t::ts=>.str (sv x) t::zkx xs ts
 | _,_=>[]
noncomputable def zoc (W:Wd) (k:Nat) (x:Str) (d:D) (xs:List (List Nat)) (d':D):Prop :=
 ∃fv,FnAt W x fv∧zba W fv∧∀A s v (ts:List Tok),Rm k A→Gd W s→RV s.heap W.X d v→ts.length=xs.length→ts.Pairwise (· < ·)→(∀t∈ts,W.tk0≤t∧t < s.toks)→W.tk0≤s.toks →
  ∀(Q E:Value→Shared→Prop),(∀r s',Stp W s s'→RV s'.heap (nw s) d' r→Q r s')→wpAny W.M A (call fv (v::zkx xs ts)) Q E s
structure Snd (W:Wd) (F:Fns) (k:Nat):Prop where
 fn:∀f ds d,zrv f=true→F f ds=some d→zhh W k (zh f) ds d
 gl:∀d,F 50 []=some d→zyq W (zh 50) d
 fnt:∀f d xs d',F (f+1000) (d::xs.map .str)=some d'→zoc W k (zh f) d xs d'
 src:∀ds items,F 20 ds=some (.list items)→zg items=true→∀(own:Bool) (c:Cx) (ρ:zc) (p pos:Pos) (es:List Expr),c.k=k→c.env.kindOf (zh 20)=some .globalImplicit→ze es=true→EvL W .al c ρ es ds →
  EvS W own c ρ (.Call (.Name (zh 20) p) es [] pos) true items
 tk:∀i,F 99 []=some (.int i)→i≤W.tk0
 nb:∀h,W.G h→NoneBooked h
 pos:0 < W.tk0
 tyList:FnAt W (zh 1) (.type "list")
 tyRange:FnAt W (zh 8) (.type "range")
 tyRev:FnAt W (zh 9) (.type "reversed")
 fnSort:FnAt W (zh 3) (.builtin "sorted")
structure Fits (c:Cx) (sc:Sc):Prop where
 kind:c.env.scope.kind = .function
 names:c.env.scope.names=sc.names
 ns:c.ns=sc.ns
 no:c.no=sc.no
section
variable {W:Wd}{c:Cx}{sc:Sc}{ρ:zc}
theorem Fits.kindOf (h:Fits c sc) (x:Str):c.env.kindOf x=sc.kind x:=by unfold Env.kindOf Sc.kind;rw[h.names]
theorem Fits.glob (h:Fits c sc) {x:Str} (g:sc.glob x=true):c.env.kindOf x=some .globalImplicit:=by rw[h.kindOf];exact eq_of_beq g
theorem Fits.at_ (h:Fits c sc) {i:Nat}{x:Str} (g:sc.at_ i x=true):c.ns[i]? = some x:=by rw[h.ns];exact eq_of_beq g
theorem zqp {κ:Kd}{d:D}{e:Expr} (h:zwL d e=true):Ev W κ c ρ e d:=by
 cases d with
 | none=>refine zaA (zcw h) λv k p q3_ h1=>?_;subst q3_;cases znO h1;exact zqQ
 | bool b=>refine zaA (zcw h) λv k p q3_ h1=>?_;subst q3_;refine xEA (znP h1) λb' q1_ h2=>?_;subst q1_;cases eq_of_beq h2;exact zqT
 | int b=>refine zaA (zcw h) λv k p q3_ h1=>?_;subst q3_;refine xEA (zrb h1) λb' q1_ h2=>?_;subst q1_;cases eq_of_beq h2;exact zun
 | str b=>refine zaA (zfu h) λx k p q3_ h1=>?_;subst q3_;exact zuk (eq_of_beq h1)
 | _=>exact(Bool.false_ne_true h).elim
theorem zno (hf:Fits c sc):∀{ts:List Expr}{is:List Nat},mN sc ts is=true→zrm c ts is
 | [],is,h=>zbZ h
 | t::ts,is,h=>by
  refine zav (zac h) λx p q2_ h1=>?_;subst q2_
  refine bCE h1 λi r h2=>?_
  refine zj h2 λh3 h4=>?_
  refine zj h4 λh5 h6=>?_
  exact⟨i,r,x,p,rfl,rfl,by rw[hf.no];exact of_decide_eq_true h3,hf.at_ h5,zno hf h6⟩
theorem zhC (hf:Fits c sc) {t:Expr}{n:Nat}{is:List Nat} (h:ztJ sc t n is=true):zmm c t n is∧(n=0→zcL t=true):=by
 unfold ztJ at h
 by_cases hn:n=0
 ·rw[if_pos hn]at h
  refine zj h λh0 h1=>?_
  refine zgf (zno hf h1) λi r nm p' q4_ q5_ h2 h3 h4=>?_;subst q4_;subst q5_
  cases (show r=[] from h4)
  exact⟨.inl ⟨hn,nm,p',i,rfl,rfl,h2,h3⟩,λ_=>h0⟩
 ·rw[if_neg hn]at h
  refine zaA (zhi h) λts k p q3_ h1=>?_;subst q3_
  exact⟨.inr ⟨hn,_,_,_,rfl,zno hf h1⟩,λq=>absurd q hn⟩
theorem zed {e:Expr} (h:zgF e=true) (env:Env) (x:Value):foldedSetIterable e env x=pure x:=by
 cases e<;>first | exact(Bool.false_ne_true h).elim | rfl
theorem zgy {e:Expr} (h:zgz e=true) (env:Env) (whole:Sem Value):isTrue e env whole=(do let v ← whole;standAt e.pos;holding [v] (truthy v)):=by
 cases e<;>first | exact(Bool.false_ne_true h).elim | rfl | skip
 case UnaryOp o x p=>cases o<;>first | exact(Bool.false_ne_true h).elim | rfl
theorem zlR {scope:Scope}{ns:List Str}{nt:Nat} (hf:Fits c sc) (h:zlS sc scope ns nt=true):CompSt c.env scope ns nt:=by
 simp only[zlS,Bool.and_eq_true,List.all_eq_true,decide_eq_true_eq,Bool.or_eq_true,bne_iff_ne,ne_eq,Bool.not_eq_true',beq_iff_eq]at h
 obtain⟨⟨⟨⟨⟨⟨h1,h2⟩,h3⟩,h4⟩,h5⟩,h6⟩,h7⟩:=h
 refine⟨h1,h2,h3,h4,λi x hi hx=>?_,λi x hi hx=>?_,λx hx=>?_,λi x hi hx=>?_⟩
 ·exact h5 x (List.mem_of_getElem? (i:=i) (by rw[List.getElem?_take,if_pos hi];exact hx))
 ·have:=h6 x (List.mem_of_getElem? (i:=i - nt) (by rw[List.getElem?_drop,Nat.add_sub_cancel' hi];exact hx))
  exact this.1
 ·rcases h7 _ hx with q | q
  ·exact absurd rfl q
  ·refine xE (List.mem_iff_getElem?.mp q) λj hj=>?_
   rw[List.getElem?_drop]at hj
   exact⟨nt+j,Nat.le_add_right _ _,hj⟩
 ·have:=h6 x (List.mem_of_getElem? (i:=i - nt) (by rw[List.getElem?_drop,Nat.add_sub_cancel' hi];exact hx))
  rw[hf.kindOf];exact this.2
theorem zdc {scope:Scope}{ns:List Str}{nt:Nat}{c':Cx} (hf:Fits c sc) (hk:scope.kind = .function) (h:InComp c scope ns nt c'):Fits c' (zhF sc scope ns nt):=by
 refine⟨by rw[h.sc];exact hk,?_,h.ns,h.no⟩
 rw[h.sc]
 unfold relabel zhF
 dsimp only
 rw[hf.kind]
 congr 1
 funext ⟨n,k⟩
 simp only[hf.kindOf,beq_self_eq_true,Bool.and_true]
theorem zhA {α β:Type}{f:α→Option β}:∀{l:List α}{r:List β},l.mapM f=some r→r.length=l.length∧∀(j:Nat) (y:β),r[j]? = some y→∃x,l[j]? = some x∧f x=some y
 | [],r,h=>by
  rw[List.mapM_nil]at h;refine zo h ?_;exact⟨rfl,λj y e=>nomatch e⟩
 | a::l,r,h=>by
  rw[List.mapM_cons]at h
  refine zf h λb h1 h2=>?_
  refine zf h2 λbs h3 h4=>?_
  refine xA (zhA h3) λq1 q2=>?_
  refine zo h4 ?_
  exact⟨congrArg (· + 1) q1,λj y e=>by
   cases j with
   | zero=>refine zo e ?_;exact⟨a,rfl,h1⟩
   | succ j=>exact q2 j y e⟩
end
end Mine.Internal
end

noncomputable section
open PySem PySem.Calls PyProof.Rows PySem.SeqAt
namespace Mine.Internal
section
variable {W:Wd}{F:Fns}{k:Nat}
theorem ziu {M:Model}{A:Around}{E:Value→Shared→Prop}{env:Env}{pos:Pos}:∀{xs:List (List Nat)}{es:List Expr}{s:Shared}{Q:List Value→Shared→Prop},znr xs es=true →
  (∀ts:List Tok,ts.length=xs.length→ts.Pairwise (· < ·)→(∀t∈ts,s.toks≤t∧t < s.toks+xs.length)→Q (zkx xs ts) {s with toks:=s.toks+xs.length})→wpAny M A (spliced (backTo pos (starEach es env))) Q E s
 | [],es,s,Q,h,k=>by cases zbZ h;exact wpAny_items_nil (k [] rfl .nil (λt h=>nomatch h))
 | x::xs,es,s,Q,h,k=>by
  refine bCE h λe es h1=>?_
  refine zj h1 λh2 h3=>?_
  refine zaA (zfu h2) λy kk p q3_ h4=>?_;subst q3_
  cases eq_of_beq h4
  refine wpAny_items_cons (wpAny_Constant_str (k:=kk) (pos:=p) (ziu h3 λts h1 h2 h3=>?_)) rfl
  have e:s.toks+(xs.length+1)=s.toks+1+xs.length:=by omega
  have:=k (s.toks::ts) (congrArg (· + 1) h1) (.cons (λt ht=>(h3 t ht).1) h2) (λt ht=>by
   rcases List.mem_cons.mp ht with rfl | ht
   ·exact⟨Nat.le_refl _,Nat.lt_add_of_pos_right (Nat.succ_pos _)⟩
   ·have:=h3 t ht
    exact⟨Nat.le_of_succ_le this.1,Nat.lt_of_lt_of_eq this.2 e.symm⟩)
  rw[List.length_cons,e]at this
  exact this
theorem ziG {W:Wd}{κ:Kd}{c:Cx}{ρ:zc}{x:Str}{p pos:Pos}{e0:Expr}{es:List Expr}{d d':D}{xs:List (List Nat)} (hk:c.env.kindOf x=some .globalImplicit) (hn:ze (e0::es)=true) (h:Ev W .al c ρ e0 d) (hl:znr xs es=true) (hf:zoc W c.k x d xs d') :
  Ev W κ c ρ (.Call (.Name x p) (e0::es) [] pos) d':=λo s rl Q E k=>by
 refine zdx hf λfv fa fc ok=>?_;clear hf
 have hp:=(zcC hn c.env pos).1
 have run:∀(Q':Args→Shared→Prop),(∀v ts s',Stp W s s'→RV s'.heap W.X d v→ts.length=xs.length→ts.Pairwise (· < ·)→(∀t∈ts,W.tk0≤t∧t < s'.toks)→Q' ⟨v::zkx xs ts,[]⟩ s')→wpAny W.M c.A (evalArgs fv true (backTo pos (starEach (e0::es) c.env)) []) Q' E s:=λQ' hq=>by
  rw[(zv hn c.env).1]
  refine evalArgs_plain (Calls.spliced_cons (h o s rl _ _ λv s1 x1 r1=>ziu hl λts h1 h2 h3=>?_))
  have x2:Stp W s1 {s1 with toks:=s1.toks+xs.length}:=x1.gd.toks
  refine hq v ts _ (x1.trans x2) (r1.step x1.g x2 λ_ q=>q) h1 h2 λt ht=>⟨?_,(h3 t ht).2⟩
  exact Nat.le_trans (Nat.le_trans rl.ok.toks (Nat.le_trans rl.step.toks x1.toks)) (h3 t ht).1
 have fin:∀v ts s',Stp W s s'→RV s'.heap W.X d v→ts.length=xs.length→ts.Pairwise (· < ·)→(∀t∈ts,W.tk0≤t∧t < s'.toks)→wpAny W.M c.A (call fv (v::zkx xs ts)) Q E s':=λv ts s' x1 r1 h1 h2 h3 =>
  ok _ _ _ ts rl.ok.room x1.gd r1 h1 h2 h3 (Nat.le_trans rl.ok.toks (Nat.le_trans rl.step.toks x1.toks)) Q E λr s2 x2 r2=>k _ _ (x1.trans x2) ((r2.back rl.gd.1 x1).fresh rl)
 refine wpAny_Call_NameR (zaP fa hk rl ?_)
 cases fv with
 | builtin id=>exact Calls.callWith_builtin hp (run _ λv ts s' x1 r1 h1 h2 h3=>fin v ts s' x1 r1 h1 h2 h3)
 | type T=>exact PyProof.Rows.callWith_type hp (run _ λv ts s' x1 r1 h1 h2 h3=>fin v ts s' x1 r1 h1 h2 h3)
 | ref a =>
  refine zav fc λob fd hd ha=>?_;clear fc
  exact Calls.callWith_function (o:=ob) (fd:=fd) (run _ λv ts s' x1 r1 h1 h2 h3=>⟨⟨ha _ x1.g,hd⟩,fin v ts s' x1 r1 h1 h2 h3⟩)
 | _=>exact fc.elim
theorem zur {κ:Kd}{c:Cx}{ρ:zc}{l r:Expr}{pos:Pos}{a d:D}{t:Bool} (h1:Ev W .al c ρ l a) (ht:zbH a=some t) (h2:t=true→Ev W .al c ρ r d) (h3:t=false→d=a):Ev W .al c ρ (.BoolOp .And [l,r] pos) d:=λo s rl Q E k =>
 wpAny_And2 (h1 o s rl _ _ λv s1 x1 r1=>zko ht _ _ _ (rm0 rl) x1.gd r1 _ _ λs2 x2=>by
  cases t with
  | true=>exact h2 rfl o s2 (rl.mono (x1.trans x2)) _ _ λu s3 x3 r3=>k _ _ ((x1.trans x2).trans x3) r3
  | false=>rw[h3 rfl]at k;exact k _ _ (x1.trans x2) (r1.step x1.g x2 λ_ q=>q))
theorem zhJ {ρ:zc}{i:Nat}{d:D} (h:zbd ρ i=some d):ρ[i]? = some (some (.fz d))∨∃xs,d = .list xs∧ρ[i]? = some (some (.mu xs)):=by
 refine xEA (zlw h) λb h1 h2=>?_
 subst h2
 cases b with
 | fz d'=>exact .inl h1
 | mu xs=>exact .inr ⟨xs,rfl,h1⟩
theorem zqA {ρ:zc}{i:Nat} (h:(zvt ρ i).isSome=true):∃d,ρ[i]? = some (some (.fz d)):=by
 unfold zvt at h
 cases e:ρ[i]? with
 | none=>rw[e]at h;cases h
 | some o =>
  rw[e]at h
  cases o with
  | none=>cases h
  | some b =>
   cases b with
   | fz d'=>exact⟨_,rfl⟩
   | mu xs=>cases h
theorem zuo {c:Cx}{ρ:zc}{i:Nat}{x:Str}{p:Pos}{d:D} (hi:c.ns[i]? = some x) (h:zbd ρ i=some d):Ev W .al c ρ (.Name x p) d:=by
 rcases zhJ h with h1 | ⟨xs,rfl,h1⟩
 ·exact zlH i hi h1
 ·exact zul i hi h1
theorem EvL.flat {κ κ':Kd}{c:Cx}{ρ:zc}{es:List Expr}{ds:List D} (h:EvL W κ c ρ es ds) (f:zg ds=true):EvL W κ' c ρ es ds:=λpos o s rl Q E k=>h pos o s rl Q E λvs s' x r=>k vs s' x (r.flat f)
theorem zuW {α:Type}{o:Option α}{p:α→Bool} (h:o.any p=true):∃x,o=some x∧p x=true:=by
 cases o with
 | none=>cases h
 | some x=>exact⟨x,rfl,h⟩
theorem orT {a b:Bool} (h:(a || b)=true):a=true∨b=true:=by
 cases a with
 | true=>exact .inl rfl
 | false=>exact .inr h
theorem zrs {a:Bool} (h:(!a)=true):a=false:=by cases a<;>first | rfl | cases h
theorem ifT {α:Type}{b:Bool}{x y z:α} (h:(if b=true then x else y)=z):(b=true→x=z)∧(b=false→y=z):=by
 cases b with
 | true=>exact⟨λ_=>h,nofun⟩
 | false=>exact⟨nofun,λ_=>h⟩
theorem zli {sc:Sc}{t:Expr}{is:List Nat} (h:ztJ sc t 0 is=true):zcL t=true:=(zeO (show(zcL t && mN sc [t] is)=true from h)).1
theorem zlK {c:Cx}{ρ:zc}{t:T}{e:Option Expr}{d:D}{f:Expr→Bool} (hm:oE t f e=true) (hv:ev F ρ t=some d) (h:∀x,f x=true→Ev W .al c ρ x d):EvP W c ρ e d:=by
 cases e with
 | some x=>exact h x hm
 | none =>
  cases zff hm
  exact zp hv
theorem zsJ {c:Cx}{ρ:zc}{t:T}{e:Expr}{d:D}{a:RA}{sc:Sc} (hm:mE sc t e=true) (hv:ev F ρ t=some d) (ha:RA.of d t=some a) (h:Ev W .al c ρ e d):zvb W c ρ e a:=by
 rcases RA.of_ok ha with ⟨x,rfl,rfl⟩ | ⟨x,u,rfl,rfl⟩
 ·refine zaA (zfu (show zms e (λy=>y == sv x)=true from hm)) λy k p q3_ h1=>?_;subst q3_
  exact⟨_,_,_,rfl,eq_of_beq h1⟩
 ·exact h
theorem zhK {n:Nat}{d:D}{items:List D} (h:zce n d=some items):zg items=true:=by
 cases d with
 | str x=>refine zay h λ_ h1=>?_;refine zo h1 ?_;exact zdf _
 | list xs=>refine zay h λh0 h1=>?_;refine zo h1 ?_;exact h0
 | _=>exact zl (show Option.none=some items from h)
theorem zgR {own:Bool}{c:Cx}{ρ:zc}{e:Expr}{d:D}{n:Nat}{items:List D} (h:Ev W (skd own) c ρ e d) (hi:zce n d=some items):∃pr,(n=0∨pr=true)∧EvS W own c ρ e pr items:=by
 cases d with
 | str x=>refine zay hi λh0 h1=>?_;refine zo h1 ?_;exact⟨false,.inl h0,zqM h.al⟩
 | list xs=>refine zay hi λh0 h1=>?_;refine zo h1 ?_;exact⟨true,.inr rfl,znF h h0⟩
 | _=>exact zl (show Option.none=some items from hi)
theorem zpB {n:Nat}{ds items:List D} (h:zwl n ds=some items):n=0∧zg items=true∧((∃b,ds=[.int b]∧-2 ^ 20≤b∧b≤2 ^ 20∧items=zX 0 b)∨∃a b,ds=[.int a,.int b]∧-2 ^ 20≤a∧a≤2 ^ 20∧-2 ^ 20≤b∧b≤2 ^ 20∧items=zX a b):=by
 unfold zwl at h
 by_cases hl:ds.length=1
 ·rw[if_pos hl]at h
  refine zkV h λd h1=>?_
  refine zaf h1 λb h2=>?_
  obtain⟨⟨c0,c1,c2⟩,h3⟩:=ziy h2
  refine zo h3 ?_
  exact⟨c0,zcn _ _,.inl ⟨b,rfl,c1,c2,rfl⟩⟩
 ·rw[if_neg hl]at h
  refine ztt h λd e h1=>?_
  refine zaf h1 λa h2=>?_
  refine zaf h2 λb h3=>?_
  obtain⟨⟨c0,c1,c2,c3,c4⟩,h4⟩:=ziy h3
  refine zo h4 ?_
  exact⟨c0,zcn _ _,.inr ⟨a,b,rfl,c1,c2,c3,c4,rfl⟩⟩
theorem zpA {n:Nat}{ds items:List D} (h:zxJ n ds=some items):n=0∧∃xs,ds=[.list xs]∧zg xs=true∧items=xs.reverse:=by
 refine zkV h λd h1=>?_
 refine zeb h1 λxs h2=>?_
 obtain⟨⟨c0,c1⟩,h3⟩:=ziy h2
 exact⟨c0,xs,rfl,c1,zp h3⟩
theorem zmW {ρ:zc}{es:List T} (h:zpN ρ es=true):∃i d,es=[.var i]∧ρ[i]? = some (some (.fz d)):=by
 cases es with
 | nil=>cases h
 | cons t r =>
  refine zj ((show(r.isEmpty && (zdT t).any λi=>(zvt ρ i).isSome)=true from h)) λh1 h2=>?_
  refine xEA (zuW h2) λi h3 h4=>?_
  refine xE (zqA h4) λd h5=>?_
  exact⟨i,d,by rw[zdB h3,List.isEmpty_iff.mp h1],h5⟩
theorem zup {c:Cx}{ρ:zc}{i:Nat}{x:Str}{p:Pos}{d:D} (hi:c.ns[i]? = some x) (h:zbd ρ i=some d):Ev W .ow c (frz ρ (.it (.var i))) (.Name x p) d:=by
 have hz:frz ρ (.it (.var i))=(match zck ρ i with | some xs=>ρ.set i (some (.fz (.list xs))) | none=>ρ):=rfl
 rw[hz]
 rcases zhJ h with h1 | ⟨xs,rfl,h1⟩
 ·have:zck ρ i=none:=ztB h1
  rw[this]
  exact zfP i hi h1
 ·have:zck ρ i=some xs:=ztA h1
  rw[this]
  exact zfP i hi (by rw[List.getElem?_set_self (List.getElem?_eq_some_iff.mp h1).1])
theorem zlQ {c:Cx}{sc:Sc}{ρ:zc}{caps:List Nat}{cn tn:List Str}{cs:List D} (hf:Fits c sc) (q2:∀(j:Nat) (y:Str),cn[j]? = some y→∃x,caps[j]? = some x∧sc.ns[x]? = some y) (q3:cs.length=(caps.map (zbd ρ)).length)
  (q4:∀(j:Nat) (y:D),cs[j]? = some y→∃x,(caps.map (zbd ρ))[j]? = some x∧id x=some y):∀j y,tn.length≤j→(tn++cn)[j]? = some y→∃i d,c.ns[i]? = some y∧zbd ρ i=some d∧cs[j - tn.length]? = some d:=λj y hj hy=>by
 rw[List.getElem?_append_right hj]at hy
 refine xEA (q2 _ y hy) λi g1 g2=>?_
 have hlt:j - tn.length < cs.length:=by rw[q3,List.length_map];exact(List.getElem?_eq_some_iff.mp g1).1
 refine xEA (q4 _ _ (List.getElem?_eq_getElem hlt)) λx g3 g4=>?_
 rw[List.getElem?_map,g1]at g3
 cases g3
 exact⟨i,_,by rw[hf.ns];exact g2,g4,List.getElem?_eq_getElem hlt⟩
theorem ztM {ds:List D}{d:D} (h:(on2 ds λa b=>zA a λa=>zA b λb=>if -2 ^ 20≤a∧a≤2 ^ 20∧-2 ^ 20≤b∧b≤2 ^ 20 then some (.list (zX a b)) else Option.none)=some d) :
  ∃xs,d = .list xs∧∃a b,ds=[.int a,.int b]∧-2 ^ 20≤a∧a≤2 ^ 20∧-2 ^ 20≤b∧b≤2 ^ 20∧xs=zX a b:=by
 refine ztt h λa b h1=>?_
 refine zaf h1 λa h2=>?_
 refine zaf h2 λb h3=>?_
 obtain⟨⟨c1,c2,c3,c4⟩,h4⟩:=ziy h3
 exact⟨_,zp h4,a,b,rfl,c1,c2,c3,c4,rfl⟩
theorem zwP {α:Type}{c:Prop} [i:Decidable c] {t:Option α}{x:α} (h:(if c then Option.none else t)=some x):¬c∧t=some x:=by
 cases i with
 | isFalse hc=>exact⟨hc,h⟩
 | isTrue hc=>exact zl (show Option.none=some x from h)
theorem zqW {c:Cx}{sc:Sc}{ρ:zc}{caps:List Nat}{cn:List Str}{n:Nat}{src:S}{target iter elt:Expr}{ifs:List Expr}{a:Int}{scope:Scope}{pos:Pos}{items ys cs:List D}{test:zc→Option Bool}{eltF:zc→Option D} (hf:Fits c sc) (hcn:caps.mapM (sc.ns[·]?)=some cn)
  (hA:cmA sc scope n cn src ⟨target,iter,ifs,a⟩=true)
  (hR:zg items=true∧(zkX src=true→∃pr,(n=0∨pr=true)∧EvS W false c ρ iter pr items)∧(ziX ρ src=true→∃pr,(n=0∨pr=true)∧EvS W true c (frz ρ src) iter pr items))
  (hlen:¬2 ^ 20 < items.length) (v4:(caps.map (zbd ρ)).mapM id=some cs)
  (hT:∀c',c'.k=c.k→Fits c' (ztT sc scope target cn)→∀σ b,test σ=some b→zve W c' σ ifs b) (hE:∀c',c'.k=c.k→Fits c' (ztT sc scope target cn)→∀σ d,eltF σ=some d→Ev W .al c' σ elt d)
  (hL:zbO n (cs.map λd=>some (.fz d)) test eltF items=some ys):a=0∧EvU W c ρ (.ListComp elt [⟨target,iter,ifs,0⟩] scope pos) scope iter.pos (eval iter c.env) ys:=by
 refine zj hA λm0 h=>?_
 refine zj h λm1 h=>?_
 refine zj h λm2 h=>?_
 refine zj h λm3 h=>?_
 refine zj h λm4 m5=>?_
 refine xAA hR λR1 R2 _=>?_;clear hR
 refine xEA (R2 m4) λpr hpr hsrc=>?_
 have st:=zlR hf m2
 refine xA (zhA hcn) λq1 q2=>?_
 refine xA (zhA v4) λq3 q4=>?_
 exact⟨eq_of_beq m0,znM st (of_decide_eq_true m1) (by rw[List.length_append,q1,q3,List.length_map]) (λc' ic=>(zhC (zdc hf st.kind ic) m5).1) hsrc (hpr.elim (λh0=>.inr (by subst h0;exact zli m5)) .inl) R1 (Nat.le_of_not_lt hlen) (zlQ hf q2 q3 q4)
  (λc' ic=>hT c' ic.k (zdc hf st.kind ic)) (λc' ic=>hE c' ic.k (zdc hf st.kind ic)) hL (zed m3 _)⟩
theorem zgd {P:Prop} (h:false=true):P:=(Bool.false_ne_true h).elim
noncomputable def PE (W:Wd) (F:Fns) (k:Nat) (t:T):Prop:=∀(sc:Sc) (c:Cx) (ρ:zc) (e:Expr) (d:D),c.k=k→Fits c sc→mE sc t e=true→ev F ρ t=some d→Ev W .al c ρ e d∧(fre t=true→Ev W .nu c ρ e d)
noncomputable def PEs (W:Wd) (F:Fns) (k:Nat) (ts:List T):Prop:=∀(sc:Sc) (c:Cx) (ρ:zc) (es:List Expr) (ds:List D),c.k=k→Fits c sc→ze es=true→mEs sc ts es=true→evs F ρ ts=some ds→EvL W .al c ρ es ds∧ds.length=ts.length
noncomputable def PQ (W:Wd) (F:Fns) (k:Nat) (q:Q):Prop:=∀(sc:Sc) (c:Cx) (ρ:zc) (e:Expr) (b:Bool),c.k=k→Fits c sc→mQ sc q e=true→tr F ρ q=some b→EvT W c ρ e b
noncomputable def PQs (W:Wd) (F:Fns) (k:Nat) (qs:List Q):Prop:=∀(sc:Sc) (c:Cx) (ρ:zc) (es:List Expr) (b:Bool),c.k=k→Fits c sc→mQs sc qs es=true→trs F ρ qs=some b→zve W c ρ es b
noncomputable def PR (W:Wd) (F:Fns) (k:Nat) (t:S):Prop:=∀(n:Nat) (sc:Sc) (c:Cx) (ρ:zc) (e:Expr) (items:List D),c.k=k→Fits c sc→mR sc t e=true→sr F ρ n t=some items →
  zg items=true∧(zkX t=true→∃pr,(n=0∨pr=true)∧EvS W false c ρ e pr items)∧(ziX ρ t=true→∃pr,(n=0∨pr=true)∧EvS W true c (frz ρ t) e pr items)
noncomputable def PC (W:Wd) (F:Fns) (k:Nat) (t:T):Prop:=ztS t=true→∀(sc:Sc) (c:Cx) (ρ:zc) (e:Expr) (d:D) (b:Bool),c.k=k→Fits c sc→mE sc t e=true→ev F ρ t=some d→zbH d=some b→EvT W c ρ e b
theorem ztm {d:D}  : PE W F k (.lit d):=λsc c ρ e d' hk hf hm hv=>⟨by rw[zp hv];exact zqp hm,nofun⟩
theorem zth {i:Nat}  : PE W F k (.var i):=λsc c ρ e d' hk hf hm hv=>zct (λx p he h=>⟨by rw[he];exact zuo (hf.at_ h) hv,nofun⟩) rfl hm
theorem zwy {o:UnaryOp}{t:T} (ih0:PE W F k t):PE W F k (.un o t):=λsc c ρ e d' hk hf hm hv=>zoe (λo' x p he h=>by
  refine zj h λh1 h2=>?_
  refine zf hv λa v1 v2=>?_
  cases he;cases eq_of_beq h1
  exact⟨zxh (ih0 sc c ρ _ a hk hf h2 v1).1 (t_un v2),nofun⟩) rfl hm
theorem ztp {o:Operator}{l r:T} (ih0:PE W F k l) (ih1:PE W F k r):PE W F k (.bin o l r):=λsc c ρ e d' hk hf hm hv=>zpb (λl' o' r' p he h=>by
  refine zj h λh1 h2=>?_
  refine zj h2 λh3 h4=>?_
  refine zf hv λa v1 v2=>?_
  refine zf v2 λb v3 v4=>?_
  cases he;cases eq_of_beq h1
  have A1:=(ih0 sc c ρ _ a hk hf h3 v1).1
  have A2:=(ih1 sc c ρ _ b hk hf h4 v3).1
  exact⟨ziH A1 A2 (zmN v4),λ_=>ziH A1 A2 (zmN v4)⟩) rfl hm
theorem zto {o:CmpOp}{l r:T} (ih0:PE W F k l) (ih1:PE W F k r):PE W F k (.cmp o l r):=λsc c ρ e d' hk hf hm hv=>zjY (λl' os rs q he h=>by
  refine xEA (zeC h) λo' q1_ h1=>?_;subst q1_
  refine xEA (zeC h1) λr' q1_ h2=>?_;subst q1_
  refine zj h2 λh3 h4=>?_
  refine zj h4 λh5 h6=>?_
  refine zj h6 λh7 h8=>?_
  refine zf hv λa v1 v2=>?_
  refine zf v2 λb v3 v4=>?_
  refine xEA (zhf v4) λp v5 q2_=>?_;subst q2_
  cases he;cases eq_of_beq h3
  exact⟨zuq (ih0 sc c ρ _ a hk hf h7 v1).1 (ih1 sc c ρ _ b hk hf h8 v3).1 (zsp v5) (zrs h5),nofun⟩) rfl hm
theorem ztq {l r:T} (ih0:PE W F k l) (ih1:PE W F k r):PE W F k (.and l r):=λsc c ρ e d' hk hf hm hv=>zjZ (λo es p he h=>by
  refine zj h λh1 h2=>?_
  refine zav (zri h2) λl' r' q2_ h3=>?_;subst q2_
  refine zj h3 λh4 h5=>?_
  refine zf hv λa v1 v2=>?_
  refine zf v2 λt v3 v4=>?_
  refine xA (ifT v4) λq1 q2=>?_
  cases he;cases eq_of_beq h1
  exact⟨zur (κ:=.al) (ih0 sc c ρ _ a hk hf h4 v1).1 v3 (λht=>(ih1 sc c ρ _ d' hk hf h5 (q1 ht)).1) (λht=>zp (q2 ht)),nofun⟩) rfl hm
theorem ztn {q:Q}{a b:T} (ih0:PQ W F k q) (ih1:PE W F k a) (ih2:PE W F k b):PE W F k (.ife q a b):=λsc c ρ e d' hk hf hm hv=>zrF (λc' a' b' p he h=>by
  refine zj h λh1 h2=>?_
  refine zj h2 λh3 h4=>?_
  refine zf hv λt v1 v2=>?_
  refine xA (ifT v2) λq1 q2=>?_
  cases he
  have A1:=ih0 sc c ρ _ t hk hf h1 v1
  have pa:=λht=>ih1 sc c ρ _ d' hk hf h3 (q1 ht)
  have pb:=λht=>ih2 sc c ρ _ d' hk hf h4 (q2 ht)
  exact⟨zoK A1 (λht=>(pa ht).1) λht=>(pb ht).1,λh=>zoK A1 (λht=>(pa ht).2 (zeO h).1) λht=>(pb ht).2 (zeO h).2⟩) rfl hm
theorem ztj {t i:T} (ih0:PE W F k t) (ih1:PE W F k i):PE W F k (.sub t i):=λsc c ρ e d' hk hf hm hv=>zhk (λx y p he h=>by
  refine zj h λh1 h2=>?_
  refine zf hv λa v1 v2=>?_
  refine zf v2 λb v3 v4=>?_
  cases he
  have A1:=ih0 sc c ρ _ a hk hf h1 v1
  have A2:=(ih1 sc c ρ _ b hk hf h2 v3).1
  exact⟨zoG A1.1 A2 v4,λh=>zoG (A1.2 h) A2 v4⟩) rfl hm
theorem ztk {t lo hi st:T} (ih0:PE W F k t) (ih1:PE W F k lo) (ih2:PE W F k hi) (ih3:PE W F k st):PE W F k (.slc t lo hi st):=λsc c ρ e d' hk hf hm hv=>zhk (λx y p he h=>by
  refine zaI (zoY h) λl' h' s' q q4_ g=>?_;subst q4_
  refine zj g λg1 g2=>?_
  refine zj g2 λg3 g4=>?_
  refine zj g4 λg5 g6=>?_
  refine zf hv λa v1 v2=>?_
  refine zf v2 λx1 v3 v4=>?_
  refine zf v4 λy1 v5 v6=>?_
  refine zf v6 λz1 v7 v8=>?_
  cases he
  have A1:=(ih0 sc c ρ _ a hk hf g1 v1).1
  have B1:=zlK (W:=W) (c:=c) g3 v3 λu hu=>(ih1 sc c ρ u x1 hk hf hu v3).1
  have B2:=zlK (W:=W) (c:=c) g5 v5 λu hu=>(ih2 sc c ρ u y1 hk hf hu v5).1
  have B3:=zlK (W:=W) (c:=c) g6 v7 λu hu=>(ih3 sc c ρ u z1 hk hf hu v7).1
  exact⟨zoH A1 B1 B2 B3 v8,λ_=>zoH A1 B1 B2 B3 v8⟩) rfl hm
theorem zti {es:List T} (ih0:PEs W F k es):PE W F k (.tup es):=λsc c ρ e d' hk hf hm hv=>zhj (λes' n p he h=>by
  refine zj h λh1 h2=>?_
  refine zj h2 λh3 h4=>?_
  refine zhB hv λds v1=>?_
  cases he
  refine xA (ih0 sc c ρ _ ds hk hf h1 h4 v1) λB1 B2=>?_
  exact⟨ziE B1 (by rw[B2];exact of_decide_eq_true h3),nofun⟩) rfl hm
theorem zpX {es:List T} (ih0:PEs W F k es):PE W F k (.list es):=λsc c ρ e d' hk hf hm hv=>zmu (λes' p he h=>by
  refine zj h λh1 h2=>?_
  refine zj h2 λh3 h4=>?_
  refine zf hv λds v1 v2=>?_
  refine zay v2 λhfl v3=>?_
  cases he;refine zo v3 ?_
  refine xA (ih0 sc c ρ _ ds hk hf h1 h4 v1) λB1 B2=>?_
  have hl:ds.length≤1000:=by rw[B2];exact of_decide_eq_true h3
  exact⟨zlJ B1 hl,λh=>zlJ (B1.flat hfl) hl⟩) rfl hm
theorem zlP {n:Nat}{caps:List Nat}{src:S}{ifs:List Q}{elt:T} (ih0:PR W F k src) (ih1:PQs W F k ifs) (ih2:PE W F k elt) {sc:Sc}{c:Cx}{ρ:zc}{e:Expr}{d':D} (hk:c.k=k) (hf:Fits c sc) (hm:mE sc (.comp n caps src ifs elt) e=true) (hv:ev F ρ (.comp n caps src ifs elt)=some d') :
  ∃elt' target iter ifs' scope pos ys,e = .ListComp elt' [⟨target,iter,ifs',0⟩] scope pos∧d' = .list ys∧EvU W c ρ e scope iter.pos (eval iter c.env) ys:=by
 refine zaI (zhT hm) λelt' gs scope pos he h=>?_
 obtain⟨⟨target,iter,ifs',a⟩,hg,h1⟩:=zeC h
 refine xEA (zuW h1) λcn hcn h2=>?_
 refine zj h2 λhA h3=>?_
 refine zj h3 λm6 h4=>?_
 refine zj h4 λm7 m8=>?_
 refine zf hv λitems v1 v2=>?_
 refine xA (zwP v2) λhlen v3=>?_
 refine zf v3 λcs v4 v5=>?_
 refine xEA (zhf v5) λys v6 hd=>?_
 refine xA (zqW (pos:=pos) hf hcn hA (ih0 n sc c ρ iter items hk hf m6 v1) hlen v4 (λc' ek ft σ b hb=>ih1 _ c' σ ifs' b (ek.trans hk) ft m7 hb) (λc' ek ft σ d hd=>(ih2 _ c' σ elt' d (ek.trans hk) ft m8 hd).1) v6) λha U=>?_
 rw[he,hg,ha]
 exact⟨elt',target,iter,ifs',scope,pos,ys,rfl,hd,U⟩
theorem zpY {n:Nat}{caps:List Nat}{src:S}{ifs:List Q}{elt:T} (ih0:PR W F k src) (ih1:PQs W F k ifs) (ih2:PE W F k elt):PE W F k (.comp n caps src ifs elt):=λsc c ρ e d' hk hf hm hv=>by
 refine zbh (zlP ih0 ih1 ih2 hk hf hm hv) λelt' target iter ifs' scope pos ys q7_ q8_ U=>?_;subst q7_;subst q8_
 have G:=EvU.nu U
 exact⟨G.nu,λ_=>G⟩
theorem zpZ {f:Nat}{es:List T} (Z:Snd W F k) (ih0:PEs W F k es):PE W F k (.call f es):=λsc c ρ e d' hk hf hm hv=>by
  refine zf hv λds v1 v2=>?_
  have hm':(if f=50 then b0 es && zcu e λx _=>x == zh 50 && sc.glob x else zdR e λx es'=>zrv f && (x == zh f && (sc.glob x && (ze es' && mEs sc es es'))))=true:=hm
  by_cases hf50:f=50
  ·rw[if_pos hf50]at hm'
   refine zj hm' λh1 h2=>?_
   refine zav (zac h2) λx p q2_ h3=>?_;subst q2_
   refine zj h3 λh4 h5=>?_
   cases zbZ h1;cases zp v1;cases eq_of_beq h4;subst hf50
   have G:=λκ=>zqR (κ:=κ) (ρ:=ρ) (p:=p) (hf.glob h5) (Z.gl d' v2)
   exact⟨G _,λ_=>G _⟩
  ·rw[if_neg hf50]at hm'
   refine zaI (zbF hm') λx es' p q q4_ h=>?_;subst q4_
   refine zj h λh1 h2=>?_
   refine zj h2 λh3 h4=>?_
   refine zj h4 λh5 h6=>?_
   refine zj h6 λh7 h8=>?_
   cases eq_of_beq h3
   refine xA (ih0 sc c ρ _ ds hk hf h7 h8 v1) λB1 B2=>?_
   have fo:=Z.fn f ds d' h1 v2
   rw[← hk]at fo
   exact⟨zfQ (hf.glob h5) h7 B1 fo,λ_=>zfQ (hf.glob h5) h7 B1 fo⟩
theorem znc {f:Nat}{t:T}{xs:List (List Nat)} (Z:Snd W F k) (ih0:PE W F k t):PE W F k (.callt f t xs):=λsc c ρ e d' hk hf hm hv=>by
  refine zf hv λd v1 v2=>?_
  refine zaI (zbF hm) λx es p q q4_ h=>?_;subst q4_
  refine bCE h λe0 es' g=>?_
  refine zj g λh1 h2=>?_
  refine zj h2 λh3 h4=>?_
  refine zj h4 λh5 h6=>?_
  refine zj h6 λh7 h8=>?_
  cases eq_of_beq h1
  have B1:=(ih0 sc c ρ _ d hk hf h8 v1).1
  have fo:=Z.fnt f d xs d' v2
  rw[← hk]at fo
  exact⟨ziG (hf.glob h3) h5 B1 h7 fo,λ_=>ziG (hf.glob h3) h5 B1 h7 fo⟩
theorem ztl {es:List T} (Z:Snd W F k) (ih0:PEs W F k es):PE W F k (.lrg es):=λsc c ρ e d' hk hf hm hv=>by
  refine zaI (zbF hm) λx es1 p q q4_ h=>?_;subst q4_
  refine b1E h λe1 g=>?_
  refine zaI (zbF g) λy es' p' q' q4_ g1=>?_;subst q4_
  refine zj g1 λh1 h2=>?_
  refine zj h2 λh3 h4=>?_
  refine zj h4 λh5 h6=>?_
  refine zj h6 λh7 h8=>?_
  refine zj h8 λh9 h10=>?_
  refine zf hv λds v1 v2=>?_
  refine xEA (ztM v2) λxs q1_ hs=>?_;subst q1_
  cases eq_of_beq h1;cases eq_of_beq h3
  have B1:=(ih0 sc c ρ _ ds hk hf h9 h10 v1).1
  exact⟨zoJ (hf.glob h5) (hf.glob h7) Z.tyList Z.tyRange h9 B1 hs,λ_=>zoJ (hf.glob h5) (hf.glob h7) Z.tyList Z.tyRange h9 B1 hs⟩
theorem zpW {m:Mth}{t:T}{es:List T} (ih0:PE W F k t) (ih1:PEs W F k es):PE W F k (.meth m t es):=λsc c ρ e d' hk hf hm hv=>by
  refine zfw (zfv hm) λx n es' p q q5_ hq h=>?_;subst q5_
  refine zj h λh1 h2=>?_
  refine zj h2 λh3 h4=>?_
  refine zj h4 λh5 h6=>?_
  refine zj h6 λh7 h8=>?_
  refine zj h8 λh9 h10=>?_
  refine zf hv λa v1 v2=>?_
  refine zf v2 λds v3 v4=>?_
  have A1:=(ih0 sc c ρ _ a hk hf h9 v1).1
  have B1:=(ih1 sc c ρ _ ds hk hf h5 h10 v3).1
  exact⟨zlI (eq_of_beq h1) h3 h5 (of_decide_eq_true h7) hq A1 B1 v4,λ_=>zlI (eq_of_beq h1) h3 h5 (of_decide_eq_true h7) hq A1 B1 v4⟩
theorem zpV {t a b:T} (Z:Snd W F k) (ih0:PE W F k t) (ih1:PE W F k a) (ih2:PE W F k b):PE W F k (.repl t a b):=λsc c ρ e d' hk hf hm hv=>by
  refine zfw (zfv hm) λx n es' p q q5_ hq h=>?_;subst q5_
  refine b2E h λa' b' g=>?_
  refine zj g λh1 h2=>?_
  refine zj h2 λh3 h4=>?_
  refine zj h4 λh5 h6=>?_
  refine zj h6 λh7 h8=>?_
  refine zj h8 λh9 h10=>?_
  refine zf hv λdx v1 v2=>?_
  refine zf v2 λy v3 v4=>?_
  refine zf v4 λz v5 v6=>?_
  refine xEA (zF v6) λx' q1_ v7=>?_;subst q1_
  refine zf v7 λra e1 v8=>?_
  refine zf v8 λrb e2 v9=>?_
  have A1:=(ih0 sc c ρ _ _ hk hf h7 v1).1
  have A2:=zsJ h9 v3 e1 (ih1 sc c ρ _ y hk hf h9 v3).1
  have A3:=zsJ h10 v5 e2 (ih2 sc c ρ _ z hk hf h10 v5).1
  have G:∀κ,Ev W κ c ρ _ d':=λκ o s rl=>zqP (κ:=κ) (K:=F 99 []) Z.tk (Nat.lt_of_lt_of_le Z.pos rl.ok.toks) Z.nb (eq_of_beq h1) h3 h5 hq A1 A2 A3 v9 o s rl
  exact⟨G _,λ_=>G _⟩
theorem zpU   : PEs W F k []:=λsc c ρ es ds hk hf hn hm hv=>by
  cases zbZ hm;refine zo hv ?_
  exact⟨zbg,rfl⟩
theorem znb {t:T}{ts:List T} (ih0:PEs W F k ts) (ih1:PE W F k t):PEs W F k (t::ts):=λsc c ρ es ds hk hf hn hm hv=>by
  refine zav (zjK hm) λe es q2_ h=>?_;subst q2_
  refine xA (zeO h) λh1 h2=>?_
  refine xEA (zcr hv) λd v1 v2=>?_
  refine xEA (zcr v2) λds' v3 v4=>?_
  cases zp v4
  have hn':=(zv hn c.env).2
  refine xA (ih0 sc c ρ es ds' hk hf hn' h2 v3) λB1 B2=>?_
  exact⟨zbx (ih1 sc c ρ e d hk hf h1 v1).1 B1 λenv=>(zv hn env).1,congrArg (· + 1) B2⟩
theorem zsX {t:T} (ih0:PC W F k t) (ih1:PE W F k t):PQ W F k (.val t):=λsc c ρ e b hk hf hm hv=>by
  refine zf hv λd v1 v2=>?_
  refine zj hm λm1 m2=>?_
  rcases orT m1 with m1 | m1
  ·exact ih0 m1 sc c ρ e d b hk hf m2 v1 v2
  ·exact zhN (ih1 sc c ρ e d hk hf m2 v1).1 (zko v2) (zgy m1 _)
theorem zsY {q:Q} (ih0:PQ W F k q):PQ W F k (.not q):=λsc c ρ e b hk hf hm hv=>zoe (λo x p he h=>by
  refine zj h λh1 h2=>?_
  refine zhB hv λt v1=>?_
  cases he;cases eq_of_beq h1
  exact zqK (ih0 sc c ρ _ t hk hf h2 v1)) rfl hm
theorem zsZ {l r:Q} (ih0:PQ W F k l) (ih1:PQ W F k r):PQ W F k (.and l r):=λsc c ρ e b hk hf hm hv=>zjZ (λo es q he h=>by
  refine zj h λh1 h2=>?_
  refine zav (zri h2) λl' r' q2_ h3=>?_;subst q2_
  refine zj h3 λh4 h5=>?_
  refine zf hv λp v1 v2=>?_
  cases he;cases eq_of_beq h1
  have A1:=ih0 sc c ρ _ p hk hf h4 v1
  cases p with
  | true =>
   have:=zlF (pos:=q) (zfZ A1 λ_=>zfZ (ih1 sc c ρ _ b hk hf h5 v2) λ_=>zrl)
   rw[Bool.true_and,Bool.and_true]at this
   exact this
  | false =>
   cases zp v2
   exact(zlF (zfZ A1 λh=>nomatch h):EvT W c ρ (.BoolOp .And [_,_] _) (false && true))) rfl hm
theorem zpR   : PQs W F k []:=λsc c ρ es b hk hf hm hv=>by
  cases zbZ hm;refine zo hv ?_
  exact znE
theorem zmZ {q:Q}{qs:List Q} (ih0:PQ W F k q):PQs W F k (q::qs):=λsc c ρ es b hk hf hm hv=>by
  refine zj hm λh1 h2=>?_
  refine b1E h2 λe h3=>?_
  cases zbZ h1
  refine zf hv λp v1 v2=>?_
  have:p=b:=by
   cases p with
   | true=>exact Option.some.inj v2
   | false=>exact Option.some.inj v2
  subst this
  exact znD (ih0 sc c ρ _ p hk hf h3 v1)
theorem zwt {t:T} (ih0:PE W F k t):PR W F k (.it t):=λn sc c ρ e items hk hf hm hv=>by
  refine zf hv λd v1 v2=>?_
  have A:=ih0 sc c ρ e d hk hf hm v1
  refine⟨zhK v2,λ_=>zgR (own:=false) A.1 v2,λho=>zgR (own:=true) ?_ v2⟩
  cases hvar:zdT t with
  | some i =>
   cases zdB hvar
   exact zct (λx p he hn=>by rw[he];exact zup (hf.at_ hn) v1) rfl hm
  | none =>
   have hfr:fre t=true:=by
    rcases orT ho with h | h
    ·rw[hvar]at h;cases h
    ·exact h
   have hz:frz ρ (.it t)=ρ:=by
    show(match zdT t with | some i=>(match zck ρ i with | some xs=>ρ.set i (some (.fz (.list xs))) | none=>ρ) | none=>ρ)=ρ
    rw[hvar]
   rw[hz]
   exact(A.2 hfr).nu
theorem zpQ {f:Nat}{es:List T} (Z:Snd W F k) (ih0:PEs W F k es):PR W F k (.call f es):=λn sc c ρ e items hk hf hm hv=>by
  refine zaI (zbF hm) λx es' p q q4_ h=>?_;subst q4_
  refine zj h λh1 h2=>?_
  refine zj h2 λm1 h3=>?_
  refine zj h3 λm2 m3=>?_
  cases eq_of_beq h1
  refine zf hv λds v1 v2=>?_
  have B1:=(ih0 sc c ρ _ ds hk hf m2 m3 v1).1
  rcases ifP (y:=zxN F n f ds) v2 with ⟨rfl,v3⟩ | ⟨_,v3⟩
  ·refine xAA (zpB v3) λh0 hfl hs=>?_
   have G:=λown=>zlG (own:=own) (p:=q) (pos:=p) (hf.glob m1) Z.tyRange m2 B1 hs
   exact⟨hfl,λ_=>⟨false,.inl h0,G _⟩,λ_=>⟨false,.inl h0,G _⟩⟩
  rcases ifP (y:=zsy F f ds) v3 with ⟨rfl,v4⟩ | ⟨_,v4⟩
  ·refine zvG (zpA v4) λh0 xs hds hfl q4_=>?_;subst q4_
   refine⟨zcO hfl,(λh=>nomatch h),λho=>⟨false,.inl h0,?_⟩⟩
   refine zav (zmW (show zpN ρ es=true from ho)) λi d2 q2_ hd=>?_;subst q2_
   refine zav (zjK m3) λe1 es1 q2_ g1=>?_;subst q2_
   refine zj g1 λg2 g3=>?_
   cases zbZ g3
   refine zav (zac g2) λx p' q2_ hn=>?_;subst q2_
   have hd2:ds=[d2]:=by
    refine zf v1 λd3 w1 w2=>?_
    have:zbd ρ i=some d2:=zfM hd
    cases zp w2
    exact congrArg (λd=>[d]) (Option.some.inj (w1.symm.trans this))
   rw[hds]at hd2
   cases hd2
   exact zqN (own:=true) (hf.glob m1) Z.tyRev m2 (zfP i (hf.at_ hn) hd) hfl
  refine zay v4 λf20 v4=>?_
  refine zf v4 λd v5 v6=>?_
  refine xEA (zaL v6) λxs q1_ v7=>?_;subst q1_
  refine zay v7 λhfl v8=>?_
  cases zp v8
  subst f20
  have G:=λown=>Z.src ds _ v5 hfl own c ρ q p _ hk (hf.glob m1) m2 B1
  exact⟨hfl,λ_=>⟨true,.inr rfl,G _⟩,λ_=>⟨true,.inr rfl,G _⟩⟩
theorem ztr {o:CmpOp}{l r:T} (ih0:PE W F k l) (ih1:PE W F k r):PC W F k (.cmp o l r):=λ_ sc c ρ e d b hk hf hm v0 v9=>zjY (λl' os rs q he h=>by
  refine xEA (zeC h) λo' q1_ h1=>?_;subst q1_
  refine xEA (zeC h1) λr' q1_ h2=>?_;subst q1_
  refine zj h2 λh3 h4=>?_
  refine zj h4 λh5 h6=>?_
  refine zj h6 λh7 h8=>?_
  refine zf v0 λa v1 v2=>?_
  refine zf v2 λb' v3 v4=>?_
  refine xEA (zhf v4) λp v5 q2_=>?_;subst q2_
  cases he;cases eq_of_beq h3;cases zp v9
  exact zqL (ih0 sc c ρ _ a hk hf h7 v1).1 (ih1 sc c ρ _ b' hk hf h8 v3).1 (zsp v5) (zrs h5)) rfl hm
variable (Z:Snd W F k)
include Z
mutual
theorem zw:∀t:T,PE W F k t
 | .lit d=>ztm
 | .var i=>zth
 | .un o t=>zwy (zw t)
 | .bin o l r=>ztp (zw l) (zw r)
 | .cmp o l r=>zto (zw l) (zw r)
 | .and l r=>ztq (zw l) (zw r)
 | .or _ _=>λ_ _ _ _ _ _ _ hm _=>(Bool.false_ne_true hm).elim
 | .ife q a b=>ztn (zeL q) (zw a) (zw b)
 | .sub t i=>ztj (zw t) (zw i)
 | .slc t lo hi st=>ztk (zw t) (zw lo) (zw hi) (zw st)
 | .tup es=>zti (zbj es)
 | .list es=>zpX (zbj es)
 | .comp n caps src ifs elt=>zpY (zqj src) (zox ifs) (zw elt)
 | .call f es=>zpZ Z (zbj es)
 | .callt f t xs=>znc Z (zw t)
 | .lrg es=>ztl Z (zbj es)
 | .meth m t es=>zpW (zw t) (zbj es)
 | .repl t a b=>zpV Z (zw t) (zw a) (zw b)
 | .srt _=>λ_ _ _ _ _ _ _ hm _=>(Bool.false_ne_true hm).elim
theorem zbj:∀t:List T,PEs W F k t
 | []=>zpU
 | t::ts=>znb (zbj ts) (zw t)
theorem zeL:∀t:Q,PQ W F k t
 | .val t=>zsX (zwG t) (zw t)
 | .not q=>zsY (zeL q)
 | .and l r=>zsZ (zeL l) (zeL r)
 | .or _ _=>λ_ _ _ _ _ _ _ hm _=>(Bool.false_ne_true hm).elim
theorem zox:∀t:List Q,PQs W F k t
 | []=>zpR
 | q::qs=>zmZ (zeL q)
theorem zqj:∀t:S,PR W F k t
 | .it t=>zwt (zw t)
 | .call f es=>zpQ Z (zbj es)
theorem zwG:∀t:T,PC W F k t
 | .lit _=>λh=>zgd h
 | .var _=>λh=>zgd h
 | .un _ _=>λh=>zgd h
 | .bin _ _ _=>λh=>zgd h
 | .cmp o l r=>ztr (zw l) (zw r)
 | .and _ _=>λh=>zgd h
 | .or _ _=>λh=>zgd h
 | .ife _ _ _=>λh=>zgd h
 | .sub _ _=>λh=>zgd h
 | .slc _ _ _ _=>λh=>zgd h
 | .tup _=>λh=>zgd h
 | .list _=>λh=>zgd h
 | .comp _ _ _ _ _=>λh=>zgd h
 | .call _ _=>λh=>zgd h
 | .callt _ _ _=>λh=>zgd h
 | .lrg _=>λh=>zgd h
 | .meth _ _ _=>λh=>zgd h
 | .repl _ _ _=>λh=>zgd h
 | .srt _=>λh=>zgd h
end
theorem zqk {n:Nat}{caps:List Nat}{src:S}{ifs:List Q}{elt:T}{sc:Sc}{c:Cx}{ρ:zc}{e:Expr}{d':D} (hk:c.k=k) (hf:Fits c sc) (hm:mE sc (.comp n caps src ifs elt) e=true) (hv:ev F ρ (.comp n caps src ifs elt)=some d') :
  ∃elt' target iter ifs' scope pos ys,e = .ListComp elt' [⟨target,iter,ifs',0⟩] scope pos∧d' = .list ys∧EvU W c ρ e scope iter.pos (eval iter c.env) ys:=zlP (zqj Z src) (zox Z ifs) (zw Z elt) hk hf hm hv
end
end Mine.Internal
end

noncomputable section
set_option backward.match.sparseCases false
open PySem PySem.Calls PyProof.Rows PySem.SeqAt
namespace Mine.Internal
noncomputable def zgG:Expr→Bool
 | .ListComp .. | .SetComp .. | .DictComp ..=>false
 | _=>true
noncomputable def zkZ (sc:Sc) (x:Str) (e:Expr):Bool:=zgG e || zmx e λ_ _ _=>sc.kind x != some .local
noncomputable def zsu (sc:Sc) (x:Str) (p:Pos):Expr→Bool
 | .ListComp _ _ scope pos=>sc.kind x == some .local && p.line == pos.line && !(scope.names.any λ(n,k)=>n == x && (k == .local || k == .cell))
 | _=>false
noncomputable def zqq:T→Bool
 | .comp ..=>true
 | _=>false
noncomputable def zlo:Expr→Bool
 | .Tuple ..=>true
 | _=>false
noncomputable def swN (sc:Sc) (i j:Nat) (n1 n2:Str):Bool:=decide (i≠j) && (decide (i < sc.no) && (decide (j < sc.no) && (sc.at_ i n1 && sc.at_ j n2)))
noncomputable def swK (sc:Sc) (n1 n2:Str) (p1 p2:Pos):Bool:=sc.kind n1 == some .local && (sc.kind n2 == some .local && (p2.line == p1.line && n1 != n2))
noncomputable def swE (a b:Expr):Bool:=ze [a,b] && (!(foldedForSure 8 a && foldedForSure 8 b) && !(constantsAlone 8 a && constantsAlone 8 b))
noncomputable def ztK (sc:Sc) (ts:List Expr) (is:List Nat) (e:Expr):Bool:=b2 ts λt1 t2=>zcu t1 λn1 p1=>zcu t2 λn2 p2=>b2 is λi j=>zro e λes=>b2 es λa b=>swN sc i j n1 n2 && (swK sc n1 n2 p1 p2 && swE a b)
noncomputable def onS (s:Stmt) (fAsg:List Expr→Expr→Bool) (fAug:Expr→Operator→Expr→Bool) (fExp:Expr→Bool) (fIf:Expr→List Stmt→List Stmt→Bool) (fWhl:Expr→List Stmt→List Stmt→Bool) (fFor:Expr→Expr→List Stmt→List Stmt→Bool) (fRet:Option Expr→Bool) (fBrk:Bool):Bool:=match s with
 | .Assign ts e _=>fAsg ts e
 | .AugAssign t o e _=>fAug t o e
 | .Expr e _=>fExp e
 | .If e a b _=>fIf e a b
 | .While e a b _=>fWhl e a b
 | .For t e a b _=>fFor t e a b
 | .Return e _=>fRet e
 | .Break _=>fBrk
 | _=>false
noncomputable def zsF (s:Stmt) (f:List Expr→Expr→Bool):Bool:=onS s f (λ_ _ _=>false) (λ_=>false) (λ_ _ _=>false) (λ_ _ _=>false) (λ_ _ _ _=>false) (λ_=>false) false
noncomputable def zxY (s:Stmt) (f:Expr→Operator→Expr→Bool):Bool:=onS s (λ_ _=>false) f (λ_=>false) (λ_ _ _=>false) (λ_ _ _=>false) (λ_ _ _ _=>false) (λ_=>false) false
noncomputable def zxX (s:Stmt) (f:Expr→Bool):Bool:=onS s (λ_ _=>false) (λ_ _ _=>false) f (λ_ _ _=>false) (λ_ _ _=>false) (λ_ _ _ _=>false) (λ_=>false) false
noncomputable def zxV (s:Stmt) (f:Expr→List Stmt→List Stmt→Bool):Bool:=onS s (λ_ _=>false) (λ_ _ _=>false) (λ_=>false) f (λ_ _ _=>false) (λ_ _ _ _=>false) (λ_=>false) false
noncomputable def zxT (s:Stmt) (f:Expr→List Stmt→List Stmt→Bool):Bool:=onS s (λ_ _=>false) (λ_ _ _=>false) (λ_=>false) (λ_ _ _=>false) f (λ_ _ _ _=>false) (λ_=>false) false
noncomputable def zxW (s:Stmt) (f:Expr→Expr→List Stmt→List Stmt→Bool):Bool:=onS s (λ_ _=>false) (λ_ _ _=>false) (λ_=>false) (λ_ _ _=>false) (λ_ _ _=>false) f (λ_=>false) false
noncomputable def zxU (s:Stmt) (f:Option Expr→Bool):Bool:=onS s (λ_ _=>false) (λ_ _ _=>false) (λ_=>false) (λ_ _ _=>false) (λ_ _ _=>false) (λ_ _ _ _=>false) f false
theorem zfC {s s':Stmt}{f:List Expr→Expr→Bool}{P:Prop} (kk:∀a0 a1 p,s = .Assign a0 a1 p→f a0 a1=true→P) (he:s=s') (h:zsF s' f=true):P:=by
 cases s'<;>first | exact kk _ _ _ he h | exact(Bool.false_ne_true h).elim
theorem zpL {s s':Stmt}{f:Expr→Operator→Expr→Bool}{P:Prop} (kk:∀a0 a1 a2 p,s = .AugAssign a0 a1 a2 p→f a0 a1 a2=true→P) (he:s=s') (h:zxY s' f=true):P:=by
 cases s'<;>first | exact kk _ _ _ _ he h | exact(Bool.false_ne_true h).elim
theorem zpK {s s':Stmt}{f:Expr→Bool}{P:Prop} (kk:∀a0 p,s = .Expr a0 p→f a0=true→P) (he:s=s') (h:zxX s' f=true):P:=by
 cases s'<;>first | exact kk _ _ he h | exact(Bool.false_ne_true h).elim
theorem zpI {s s':Stmt}{f:Expr→List Stmt→List Stmt→Bool}{P:Prop} (kk:∀a0 a1 a2 p,s = .If a0 a1 a2 p→f a0 a1 a2=true→P) (he:s=s') (h:zxV s' f=true):P:=by
 cases s'<;>first | exact kk _ _ _ _ he h | exact(Bool.false_ne_true h).elim
theorem zpG {s s':Stmt}{f:Expr→List Stmt→List Stmt→Bool}{P:Prop} (kk:∀a0 a1 a2 p,s = .While a0 a1 a2 p→f a0 a1 a2=true→P) (he:s=s') (h:zxT s' f=true):P:=by
 cases s'<;>first | exact kk _ _ _ _ he h | exact(Bool.false_ne_true h).elim
theorem zpJ {s s':Stmt}{f:Expr→Expr→List Stmt→List Stmt→Bool}{P:Prop} (kk:∀a0 a1 a2 a3 p,s = .For a0 a1 a2 a3 p→f a0 a1 a2 a3=true→P) (he:s=s') (h:zxW s' f=true):P:=by
 cases s'<;>first | exact kk _ _ _ _ _ he h | exact(Bool.false_ne_true h).elim
theorem zpH {s s':Stmt}{f:Option Expr→Bool}{P:Prop} (kk:∀a0 p,s = .Return a0 p→f a0=true→P) (he:s=s') (h:zxU s' f=true):P:=by
 cases s'<;>first | exact kk _ _ he h | exact(Bool.false_ne_true h).elim
noncomputable def zvl (s:Stmt) (f:Str→Str→List Expr→Bool):Bool:=zxX s λe=>zmt e λx n es=>zcu x λx _=>f x n es
theorem zhq {s:Stmt}{f:Str→Str→List Expr→Bool} (h:zvl s f=true):∃x n es p q r t,s = .Expr (.Call (.Attribute (.Name x r) n q) es [] p) t∧(q.endLine == p.line)=true∧f x n es=true:=zpK (λe t he h1=>by
 refine zfw (zfv h1) λx n es p q q5_ hq h2=>?_;subst q5_
 refine zav (zac h2) λx r q2_ h3=>?_;subst q2_
 exact⟨x,n,es,p,q,r,t,he,hq,h3⟩) rfl h
mutual
noncomputable def mS (sc:Sc):U→Stmt→Bool
 | .set i t,s=>zsF s λts e=>b1 ts λt1=>zcu t1 λx p=>decide (i < sc.no) && (sc.at_ i x && ((zkZ sc x e || (zsu sc x p e && zqq t)) && mE sc t e))
 | .new i t,s=>zsF s λts e=>b1 ts λt1=>zcu t1 λx _=>decide (i < sc.no) && (sc.at_ i x && (zkZ sc x e && mE sc t e))
 | .unp is t,s=>zsF s λts e=>b1 ts λt1=>zro t1 λts=>zgG e && ((if zlo e=true then ztK sc ts is e else mN sc ts is) && mE sc t e)
 | .seti i ix t,s=>zsF s λts e=>b1 ts λt1=>zrD t1 λx ie=>zcu x λx _=>sc.at_ i x && (zgG e && (mE sc t e && mE sc ix ie))
 | .aug i o t,s=>zxY s λx o' e=>zcu x λx _=>o == o' && (decide (i < sc.no) && (sc.at_ i x && mE sc t e))
 | .app i t,s=>zvl s λx name es=>b1 es λe=>name == ("append" : Str) && (sc.at_ i x && (ze [e] && mE sc t e))
 | .rem _ _,_=>false
 | .rev i,s=>zvl s λx name es=>b0 es && (name == ("reverse" : Str) && sc.at_ i x)
 | .pop i,s=>zvl s λx name es=>b0 es && (name == ("pop" : Str) && sc.at_ i x)
 | .ite q a b,s=>zxV s λe a' b'=>mQ sc q e && (mSs sc a a' && mSs sc b b')
 | .whl q a,s=>zxT s λe a' b'=>b0 b' && (mQ sc q e && mSs sc a a')
 | .for_ n is src body,s=>zxW s λt e b b'=>b0 b' && (ztJ sc t n is && (zgF e && (mR sc src e && mSs sc body b)))
 | .ret t,s=>zxU s λo=>oE t (λe=>mE sc t e) o
 | .brk,_=>false
 | .fail,_=>true
noncomputable def mSs (sc:Sc):List U→List Stmt→Bool
 | [],ss=>b0 ss
 | u::us,ss=>bC ss λs ss=>mS sc u s && mSs sc us ss
end
section
variable {W:Wd}{F:Fns}{k N:Nat}{sc:Sc}{c:Cx}{ρ:zc}
theorem zna {e:Expr}{g:List Comprehension}{s:Scope}{p:Pos}:(Expr.ListComp e g s p).pos=p:=rfl
theorem zoT (hf:Fits c sc):c.env.blockKind = .function:=by
 unfold Env.blockKind;rw[hf.kind];rfl
theorem zcj {e:Expr}{t:Option Expr}{line:Nat}{env:Env} (h:zgG e=true):swapsWith e t line env=pure false:=by
 cases e<;>first | exact(Bool.false_ne_true h).elim | rfl
theorem zgE (hf:Fits c sc) {x:Str}{p:Pos}{e:Expr}{line:Nat} (h:zkZ sc x e=true):swapsWith e (some (.Name x p)) line c.env=pure false:=by
 rcases orT h with h | h
 ·exact zcj h
 ·refine zaI (zhT h) λelt gens scope pos q4_ h=>?_;subst q4_
  have:(c.env.kindOf x == some .local)=false:=by
   rw[hf.kindOf]
   exact beq_eq_false_iff_ne.mpr (bne_iff_ne.mp h)
  unfold swapsWith
  simp only[this,Bool.and_false,Bool.false_and]
theorem zmO (hf:Fits c sc) {x:Str}{p:Pos}{e:Expr}{line:Nat} (h:zsu sc x p e=true):swapsWith e (some (.Name x p)) line c.env=pure true:=by
 cases e<;>first | exact(Bool.false_ne_true h).elim | skip
 case ListComp elt gens scope pos =>
  refine zj h λh0 h3=>?_
  refine zj h0 λh1 h2=>?_
  replace h3:=zrs h3
  have hb:=zoT hf
  unfold swapsWith
  simp only[hb,hf.kindOf,h1,zna,h2,h3]
  rfl
theorem zee {e t:Expr}{line:Nat}{env:Env} (h:zgG e=true):swapsWithSole [t] e line env=pure false:=by
 unfold swapsWithSole
 exact zcj h
theorem znd {e:Expr}{ts:List Expr}{k:Nat}{p:Pos}{env:Env} (h:zlo e=false):swappedStores [.Tuple ts k p] e env=pure none:=by
 cases e<;>first | exact(Bool.false_ne_true h.symm).elim | rfl
theorem zsv (hf:Fits c sc) {i j:Nat}{n1 n2:Str} (h:swN sc i j n1 n2=true):i≠j∧i < c.no∧j < c.no∧c.ns[i]? = some n1∧c.ns[j]? = some n2:=by
 refine zj h λg1 h=>?_
 refine zj h λg2 h=>?_
 refine zj h λg3 h=>?_
 refine zj h λg4 g5=>?_
 exact⟨of_decide_eq_true g1,by rw[hf.no];exact of_decide_eq_true g2,by rw[hf.no];exact of_decide_eq_true g3,hf.at_ g4,hf.at_ g5⟩
theorem zpy (hf:Fits c sc) {n1 n2:Str}{p1 p2 p pp:Pos}{a b:Expr}{k kk:Nat} (hK:swK sc n1 n2 p1 p2=true) (hE:swE a b=true):swappedStores [.Tuple [.Name n1 p1,.Name n2 p2] k p] (.Tuple [a,b] kk pp) c.env=pure (some [n1,n2]):=by
 refine zj hK λg6 h=>?_
 refine zj h λg7 h=>?_
 refine zj h λh8 g9=>?_
 refine zj hE λh10 h=>?_
 refine zj h λh11 h12=>?_
 have k1:c.env.kindOf n1=some .local:=by rw[hf.kindOf];exact eq_of_beq g6
 have k2:c.env.kindOf n2=some .local:=by rw[hf.kindOf];exact eq_of_beq g7
 have hb:=zoT hf
 have hd:(n2 == n1)=false:=beq_eq_false_iff_ne.mpr (Ne.symm (bne_iff_ne.mp g9))
 have hf8:([a,b].all (foldedForSure 8))=false:=by simpa using zrs h11
 have hc8:([a,b].all (constantsAlone 8))=false:=by simpa using zrs h12
 have hN:∀f:Expr→Option Str,f (.Name n1 p1)=some n1→f (.Name n2 p2)=some n2→[Expr.Name n1 p1,.Name n2 p2].filterMap f=[n1,n2]:=λf e1 e2=>by rw[List.filterMap_cons_some e1,List.filterMap_cons_some e2];rfl
 have e2:[n1,n2].eraseDups.length=2:=by
  have e3:[n2].eraseDups.length=1:=by simp[List.eraseDups_cons]
  simp[List.eraseDups_cons,hd]
 have c1:(c.env.kindOf n1 == some NameKind.local && p1.line == p1.line)=true:=by rw[k1];exact beq_self_eq_true p1.line
 have c2:(c.env.kindOf n2 == some NameKind.local && p2.line == p1.line)=true:=by rw[k2];exact h8
 refine(if_neg ?_).trans ((if_neg ?_).trans ((if_neg ?_).trans ((if_neg (Bool.eq_false_iff.mp hf8)).trans ((if_neg (Bool.eq_false_iff.mp hc8)).trans (congrArg (λl=>pure (some l)) (hN _ (if_pos c1) (if_pos c2)))))))
 ·rw[hb];exact Bool.false_ne_true
 ·intro h
  rcases orT (show(_ || (_ || false))=true from h) with h | h
  ·have ha:=(zeO h10).1
   clear h10 h11 h12 hf8 hc8
   cases a<;>first | exact(Bool.false_ne_true h).elim | exact(Bool.false_ne_true ha).elim
  ·rcases orT h with h | h
   ·have hb:=(zeO h10).2
    clear h10 h11 h12 hf8 hc8
    cases b<;>first | exact(Bool.false_ne_true h).elim | exact(Bool.false_ne_true hb).elim
   ·exact(Bool.false_ne_true h).elim
 ·rw[hN _ (if_pos c1) (if_pos c2),e2];exact Bool.false_ne_true
theorem znn (hf:Fits c sc) {ts:List Expr}{is:List Nat}{e:Expr} (h:ztK sc ts is e=true):∃n1 n2 p1 p2 i j,ts=[.Name n1 p1,.Name n2 p2]∧is=[i,j]∧i≠j∧i < c.no∧j < c.no∧c.ns[i]? = some n1∧c.ns[j]? = some n2 ∧
  ∀k p,swappedStores [.Tuple ts k p] e c.env=pure (some [n1,n2]):=by
 refine b2E h λt1 t2 h1=>?_
 refine zav (zac h1) λn1 p1 q2_ h2=>?_;subst q2_
 refine zav (zac h2) λn2 p2 q2_ h3=>?_;subst q2_
 refine b2E h3 λi j h4=>?_
 refine zaA (zhi h4) λes kk pp q3_ h5=>?_;subst q3_
 refine b2E h5 λa b h6=>?_
 refine zj h6 λhN h7=>?_
 refine zj h7 λhK hE=>?_
 refine zka (zsv hf hN) λa1 a2 a3 a4 a5=>?_
 exact⟨n1,n2,p1,p2,i,j,rfl,rfl,a1,a2,a3,a4,a5,λk p=>zpy hf hK hE⟩
variable (Z:Snd W F k)
include Z
theorem zok {t:T}{e:Expr}{d:D} (hf:Fits c sc) (hm:mE sc t e=true) (hv:ev F ρ t=some d) (h:muV ρ t=true):Ev W .ba c ρ e d:=by
 refine xEA (zuW h) λi h1 h2=>?_
 refine xEA (zuW h2) λxs hxs hfl=>?_
 have hmu:=zcH hxs
 cases zdB h1
 refine zct (λx p he hn=>?_) rfl hm
 have:zbd ρ i=some (.list xs):=zfM hmu
 cases Option.some.inj (this.symm.trans hv)
 rw[he]
 exact zoI i (hf.at_ hn) hmu hfl
theorem zkj:∀{es:List T}{ds:List D}{es':List Expr},Fits c sc→es.all (muV ρ)=true→ze es'=true→mEs sc es es'=true→evs F ρ es=some ds→EvL W .ba c ρ es' ds
 | [],ds,es',hf,hv,hn,hm,he=>by
  cases zbZ hm;cases zp he;exact zbg
 | t::ts,ds,es',hf,hv,hn,hm,he=>by
  refine zav (zjK hm) λe es' q2_ h1=>?_;subst q2_
  refine xA (zeO h1) λh2 h3=>?_
  refine xEA (zcr he) λd v1 v2=>?_
  refine xEA (zcr v2) λds' v3 v4=>?_
  cases zp v4
  refine xA (zeO hv) λg1 g2=>?_
  have hn':=(zv hn c.env).2
  exact zbx (zok Z hf h2 v1 g1) (zkj hf g2 hn' h3 v3) λenv=>(zv hn env).1
theorem zsH {t:T}{e:Expr}{d:D} (hk:c.k=k) (hf:Fits c sc) (hm:mE sc t e=true) (hv:ev F ρ t=some d) (hr:zkJ ρ d t=true):Ev W .ba c ρ e d:=by
 have A:=zw Z t sc c ρ e d hk hf hm hv
 rcases orT hr with h | h
 ·exact A.1.flat h
 rcases orT h with h | h
 ·exact(A.2 h).nu
 rcases orT h with h | h
 ·exact zok Z hf hm hv h
 refine xEA (zuW h) λes h1 h2=>?_
 cases zmF h1
 refine zhj (λes' n p he h=>?_) rfl hm
 refine zj h λh3 h4=>?_
 refine zj h4 λh5 h6=>?_
 refine zhB hv λds v1=>?_
 rw[he]
 refine ziE (zkj Z hf h2 h3 h6 v1) ?_
 rw[(zbj Z es sc c ρ _ ds hk hf h3 h6 v1).2]
 exact of_decide_eq_true h5
end
end Mine.Internal
end

noncomputable section
open PySem PySem.Calls PyProof.Rows PySem.SeqAt
namespace Mine.Internal
section
variable {W:Wd}{F:Fns}{k N:Nat}
theorem znA {c:Cx}{ρ ρ':zc}{st:Stmt}{fl:Fl}{i:Nat}{nm:Str}{xs:List D} (hi:c.ns[i]? = some nm) (hr:ρ[i]? = some (some (.mu xs))) (h:Ex1 W c (ρ.set i (some (.fz (.list xs)))) st fl ρ'):Ex1 W c ρ st fl ρ':=λo s rl E=>by
 have rl':=rl.frz hi hr
 refine wpAny_mono (h _ s rl' E) (λf s' D=>?_) λ_ _ x=>x
 obtain⟨o2,r2,f2,l2,n2,g2,a2⟩:=D
 refine⟨o2,r2,f2,λb ob e1 q1 q2 q3 q4=>l2 b ob e1 q1 q2 (λj q=>?_) q4,λj a q=>?_,g2,a2⟩
 ·by_cases hj:j=i
  ·subst hj;rw[zan]at q;cases q
  ·rw[zcy hj]at q;exact q3 j q
 ·rcases n2 j a q with ⟨j',q⟩ | q
  ·by_cases hj:j'=i
   ·subst hj;rw[zan]at q;cases q
   ·rw[zcy hj]at q;exact .inl ⟨j',q⟩
  ·exact .inr q
theorem ztY {c:Cx}{ρ ρ':zc}{src:S}{st:Stmt}{fl:Fl}{sc:Sc}{e:Expr} (hf:Fits c sc) (hm:mR sc src e=true) (h:Ex1 W c (frz ρ src) st fl ρ'):Ex1 W c ρ st fl ρ':=by
 cases src with
 | call f es=>exact h
 | it t =>
  have hz:frz ρ (.it t)=(match zdT t with | some i=>(match zck ρ i with | some xs=>ρ.set i (some (.fz (.list xs))) | none=>ρ) | none=>ρ):=rfl
  rw[hz]at h
  cases hv:zdT t with
  | none=>rw[hv]at h;exact h
  | some i =>
   rw[hv]at h
   cases hu:zck ρ i with
   | none =>
    have h2:Ex1 W c (match zck ρ i with | some xs=>ρ.set i (some (.fz (.list xs))) | none=>ρ) st fl ρ':=h
    rw[hu]at h2;exact h2
   | some xs =>
    have h2:Ex1 W c (match zck ρ i with | some xs=>ρ.set i (some (.fz (.list xs))) | none=>ρ) st fl ρ':=h
    rw[hu]at h2
    cases zdB hv
    exact zct (λx p _ hn=>znA (hf.at_ hn) (zcH hu) h2) rfl hm
noncomputable def PS (W:Wd) (F:Fns) (k N:Nat) (u:U):Prop:=∀(sc:Sc) (c:Cx) (ρ:zc) (st:Stmt) (fl:Fl) (ρ':zc),c.k=k→Fits c sc→mS sc u st=true→ex F N ρ u=some (fl,ρ')→Ex1 W c ρ st fl ρ'
noncomputable def PSs (W:Wd) (F:Fns) (k N:Nat) (us:List U):Prop:=∀(sc:Sc) (c:Cx) (ρ:zc) (ss:List Stmt) (fl:Fl) (ρ':zc),c.k=k→Fits c sc→mSs sc us ss=true→exs F N ρ us=some (fl,ρ')→Ex W c ρ ss fl ρ'
variable (Z:Snd W F k)
include Z
theorem zsO {i:Nat}{t:T}:PS W F k N (.set i t):=λsc c ρ st fl ρ' hk hf hm hv=>zfC (λts e p he h=>by
 refine xEA (zeC h) λt1 q1_ h1=>?_;subst q1_
 refine zav (zac h1) λx q q2_ h2=>?_;subst q2_
 refine zj h2 λm1 h3=>?_
 refine zj h3 λm2 h4=>?_
 refine zj h4 λm3 m4=>?_
 refine zf hv λd v1 v2=>?_
 refine zay v2 λhc v3=>?_
 rw[he]
 cases zp v3
 have hi:i < c.no:=by rw[hf.no];exact of_decide_eq_true m1
 rcases orT m3 with m3 | m6
 ·have A:=zw Z t sc c ρ _ d hk hf m4 v1
  exact zoF hi (hf.at_ m2) ((orT hc).elim (λh=>A.1.flat h) λh=>(A.2 h).nu) (zgE hf m3)
 ·refine zj m6 λm7 m5=>?_
  cases t with
  | comp n caps src ifs elt =>
   refine zbh (zqk Z hk hf m4 v1) λelt' target iter ifs' scope pos ys q7_ q8_ U=>?_;subst q7_;subst q8_
   exact zhM U hi (hf.at_ m2) (zmO hf m7)
  | _=>exact(Bool.false_ne_true m5).elim) rfl hm
theorem zsS {i:Nat}{t:T}:PS W F k N (.new i t):=λsc c ρ st fl ρ' hk hf hm hv=>zfC (λts e p he h=>by
 refine xEA (zeC h) λt1 q1_ h1=>?_;subst q1_
 refine zav (zac h1) λx q q2_ h2=>?_;subst q2_
 refine zj h2 λm1 h3=>?_
 refine zj h3 λm2 h4=>?_
 refine zj h4 λm3 m4=>?_
 refine zf hv λd v1 v2=>?_
 refine xEA (zaL v2) λxs q1_ v3=>?_;subst q1_
 refine zay v3 λhc v4=>?_
 rw[he]
 cases zp v4
 have A:=zw Z t sc c ρ _ _ hk hf m4 v1
 exact zuh (by rw[hf.no];exact of_decide_eq_true m1) (hf.at_ m2) (A.2 (zeO hc).1) (zeO hc).2 (zgE hf m3)) rfl hm
theorem zsN {is:List Nat}{t:T}:PS W F k N (.unp is t):=λsc c ρ st fl ρ' hk hf hm hv=>zfC (λts e p he h=>by
 refine xEA (zeC h) λt1 q1_ h1=>?_;subst q1_
 refine zaA (zhi h1) λts kk q q3_ h2=>?_;subst q3_
 refine zj h2 λm1 h3=>?_
 refine zj h3 λm2 m3=>?_
 refine zf hv λd v1 v2=>?_
 refine xEA (zcE v2) λds q1_ v3=>?_;subst q1_
 refine xEA (zhf v3) λρ2 v4 v5=>?_
 rw[he]
 cases v5
 have A:=(zw Z t sc c ρ _ _ hk hf m3 v1).1
 refine xA (ifT m2) λg1 g2=>?_
 by_cases ht:zlo e=true
 ·obtain⟨n1,n2,p1,p2,i,j,rfl,rfl,hij,hi,hj,hin,hjn,hw⟩:=znn hf (g1 ht)
  have hlen:=zcV v4
  refine xEE (zyf hlen) λa b q_=>?_
  subst q_
  exact zqH hi hin hj hjn hij A v4 (zee m1) (hw _ _)
 ·have ht:=Bool.not_eq_true _▸ht
  exact zug (zno hf (g2 ht)) A v4 (zee m1) (znd ht)) rfl hm
theorem zpP {i:Nat}{ix t:T}:PS W F k N (.seti i ix t):=λsc c ρ st fl ρ' hk hf hm hv=>zfC (λts e p he h=>by
 refine xEA (zeC h) λt1 q1_ h1=>?_;subst q1_
 refine zaA (zoX h1) λx ie q q3_ h2=>?_;subst q3_
 refine zav (zac h2) λx q' q2_ h3=>?_;subst q2_
 refine zj h3 λm1 h4=>?_
 refine zj h4 λm2 h5=>?_
 refine zj h5 λm3 m4=>?_
 refine zf hv λd v1 v2=>?_
 refine zf v2 λxs v3 v4=>?_
 refine zf v4 λkd v5 v6=>?_
 refine xEA (zae v6) λkk q1_ v7=>?_;subst q1_
 refine zay v7 λhc v8=>?_
 refine xEA (zhf v8) λxs' v9 v10=>?_
 rw[he]
 cases v10
 exact zqI (hf.at_ m1) (zw Z t sc c ρ _ d hk hf m3 v1).1 (zeO hc).1 v3 (zw Z ix sc c ρ _ _ hk hf m4 v5).1 v9 (of_decide_eq_true (zeO hc).2) (zcj m2)) rfl hm
theorem zsV {i:Nat}{o:Operator}{t:T}:PS W F k N (.aug i o t):=λsc c ρ st fl ρ' hk hf hm hv=>zpL (λx o' e p he h=>by
 refine zav (zac h) λx q q2_ h1=>?_;subst q2_
 refine zj h1 λh2 h3=>?_
 refine zj h3 λm1 h4=>?_
 refine zj h4 λm2 m3=>?_
 refine zf hv λa v1 v2=>?_
 refine zf v2 λb v3 v4=>?_
 refine xEA (zhf v4) λd v5 v6=>?_
 rw[he]
 cases v6;cases eq_of_beq h2
 have hb:∃b,ρ[i]? = some (some b):=by
  rcases zhJ v1 with h | ⟨xs,_,h⟩
  ·exact⟨_,h⟩
  ·exact⟨_,h⟩
 exact zuj (x:=d) (by rw[hf.no];exact of_decide_eq_true m1) (hf.at_ m2) hb v1 (zw Z t sc c ρ _ b hk hf m3 v3).1 v5) rfl hm
theorem zsW {i:Nat}{t:T}:PS W F k N (.app i t):=λsc c ρ st fl ρ' hk hf hm hv=>by
 refine zbh (zhq hm) λx n es p q r s q7_ hq h=>?_;subst q7_
 refine b1E h λe h1=>?_
 refine zj h1 λh2 h3=>?_
 refine zj h3 λm1 h4=>?_
 refine zj h4 λm2 m4=>?_
 refine zf hv λxs v1 v2=>?_
 refine zf v2 λd v3 v4=>?_
 refine zay v4 λhc v5=>?_
 cases zp v5;cases eq_of_beq h2
 exact zlD zlc (hf.at_ m1) v1 m2 (show 1 < 30 by decide) hq (zbx (zw Z t sc c ρ _ d hk hf m4 v3).1 zbg λenv=>(zv m2 env).1) (ztz (zeO hc).1 (of_decide_eq_true (zeO hc).2))
omit Z in
theorem zsP {i:Nat}:PS W F k N (.rev i):=λsc c ρ st fl ρ' hk hf hm hv=>by
 refine zbh (zhq hm) λx n es p q r s q7_ hq h=>?_;subst q7_
 refine zj h λh0 h1=>?_
 refine zj h1 λh2 m1=>?_
 refine zf hv λxs v1 v2=>?_
 refine zay v2 λhc v3=>?_
 cases zp v3;cases eq_of_beq h2;cases zbZ h0
 exact zlD zjm (hf.at_ m1) v1 rfl (by decide) hq zbg (ztx hc)
omit Z in
theorem zsR {i:Nat}:PS W F k N (.pop i):=λsc c ρ st fl ρ' hk hf hm hv=>by
 refine zbh (zhq hm) λx n es p q r s q7_ hq h=>?_;subst q7_
 refine zj h λh0 h1=>?_
 refine zj h1 λh2 m1=>?_
 refine zf hv λxs v1 v2=>?_
 refine xA (zwP v2) λhc v3=>?_
 cases zp v3;cases eq_of_beq h2;cases zbZ h0
 have he:xs.isEmpty=false:=Bool.eq_false_iff.mpr λq=>hc (by rw[q];rfl)
 have hl:xs.length≤2 ^ 20:=Decidable.byContradiction λq=>hc (by rw[decide_eq_false q];exact Bool.or_true _)
 exact zlD ztD (hf.at_ m1) v1 rfl (by decide) hq zbg (zty he hl)
theorem zsT {q:Q}{a b:List U} (ha:PSs W F k N a) (hb:PSs W F k N b):PS W F k N (.ite q a b):=λsc c ρ st fl ρ' hk hf hm hv=>zpI (λe a' b' p he h=>by
 refine zj h λm1 h2=>?_
 refine zj h2 λm2 m3=>?_
 refine zf hv λt v1 v2=>?_
 refine xA (ifT v2) λq1 q2=>?_
 rw[he]
 exact zlE (zeL Z q sc c ρ _ t hk hf m1 v1) (λht=>ha sc c ρ _ fl ρ' hk hf m2 (q1 ht)) λht=>hb sc c ρ _ fl ρ' hk hf m3 (q2 ht)) rfl hm
theorem zsM {q:Q}{a:List U} (ha:PSs W F k N a):PS W F k N (.whl q a):=λsc c ρ st fl ρ' hk hf hm hv=>zpG (λe a' b' p he h=>by
 refine zj h λm0 h2=>?_
 refine zj h2 λm1 m2=>?_
 rw[he,zbZ m0]
 exact zuf (λρ1 t h=>zeL Z q sc c ρ1 _ t hk hf m1 h) (λρ1 fl ρ2 h=>ha sc c ρ1 _ fl ρ2 hk hf m2 h) hv) rfl hm
theorem zsU {n:Nat}{is:List Nat}{src:S}{body:List U} (ha:PSs W F k N body):PS W F k N (.for_ n is src body):=λsc c ρ st fl ρ' hk hf hm hv=>zpJ (λt e b b' p he h=>by
 refine zj h λm0 h2=>?_
 refine zj h2 λm1 h3=>?_
 refine zj h3 λm2 h4=>?_
 refine zj h4 λm3 m4=>?_
 refine zay hv λhso v1=>?_
 refine zf v1 λitems v2 v3=>?_
 refine xAA (zqj Z src n sc c ρ _ items hk hf m3 v2) λ_ _ hR=>?_
 refine xEA (hR hso) λpr hpr hs=>?_
 refine xA (zhC hf m1) λt1 t2=>?_
 rw[he,zbZ m0]
 exact ztY hf m3 (zui hs t1 (hpr.elim (λh=>.inr (t2 h)) .inl) (λρ1 fl ρ2 h=>ha sc c ρ1 _ fl ρ2 hk hf m4 h) v3 (zed m2 _))) rfl hm
theorem zsQ {t:T}:PS W F k N (.ret t):=λsc c ρ st fl ρ' hk hf hm hv=>zpH (λo p he h=>by
 refine zf hv λd v1 v2=>?_
 refine zay v2 λhr v3=>?_
 rw[he]
 cases zp v3
 cases o with
 | some e=>exact zfk (zsH Z hk hf h v1 hr)
 | none =>
  cases zff h
  cases zp v1
  exact zqJ) rfl hm
omit Z in
theorem zpO:PSs W F k N []:=λsc c ρ ss fl ρ' hk hf hm hv=>by
 cases zbZ hm;cases zp hv
 exact zlC
omit Z in
theorem zmY {u:U}{us:List U} (h1:PS W F k N u) (h2:PSs W F k N us):PSs W F k N (u::us):=λsc c ρ ss fl ρ' hk hf hm hv=>by
 refine bCE hm λst ss h3=>?_
 refine zj h3 λh4 h5=>?_
 obtain⟨⟨f1,ρ1⟩,v1,v2⟩:=zcr hv
 have A:=h1 sc c ρ st f1 ρ1 hk hf h4 v1
 cases f1 with
 | next=>exact zdL A (h2 sc c ρ1 ss fl ρ' hk hf h5 v2)
 | brk=>cases zp v2;exact zaY A nofun
 | ret d=>cases zp v2;exact zaY A nofun
mutual
theorem zlj:∀u:U,PS W F k N u
 | .set _ _=>zsO Z
 | .new _ _=>zsS Z
 | .unp _ _=>zsN Z
 | .seti _ _ _=>zpP Z
 | .aug _ _ _=>zsV Z
 | .app _ _=>zsW Z
 | .rem _ _=>λ_ _ _ _ _ _ _ _ hm _=>(Bool.false_ne_true hm).elim
 | .rev _=>zsP
 | .pop _=>zsR
 | .ite _ a b=>zsT Z (zbL a) (zbL b)
 | .whl _ a=>zsM Z (zbL a)
 | .for_ _ _ _ a=>zsU Z (zbL a)
 | .ret _=>zsQ Z
 | .brk=>λ_ _ _ _ _ _ _ _ hm _=>(Bool.false_ne_true hm).elim
 | .fail=>λsc c ρ st fl ρ' hk hf hm hv=>zl (show Option.none=some (fl,ρ') from hv)
theorem zbL:∀us:List U,PSs W F k N us
 | []=>zpO
 | u::us=>zmY (zlj u) (zbL us)
end
end
end Mine.Internal
end

noncomputable section
open PySem PySem.Calls PyProof.Rows PySem.SeqAt
namespace Mine.Internal
structure DefAt (W:Wd) (x:Str) (a:Addr) (fd:FuncData) (body:List Stmt) (ns:List Str) (na:Nat):Prop where
 at_:FnAt W x (.ref a)
 obj:∃o:Obj,o.data = .func fd∧∀h,W.G h→h.get? a=some o
 body:fd.body = .stmts body
 clo:fd.closure=[]
 glob:fd.globals=mainGlobals
 blt:fd.builtins=builtinsNs
 code:∀h,W.G h→h.CodeRec fd.code fd.qualname
 bind:∀vals:List Value,vals.length=na→bindArgs fd ⟨vals,[]⟩=pure ((ns.take na).zip vals)
 co:fd.scope.isCoroutine=false
 gen:fd.scope.isGenerator=false
 kind:fd.scope.kind = .function
noncomputable def zjj (names:List (Str×NameKind)) (ns:List Str):Bool :=
 decide ns.Nodup && decide (names.map (·.1)).Nodup && ns.all λx=>!(x == ("__debug__" : Str)) && (decide ((x,NameKind.local)∈names) || decide ((x,NameKind.cell)∈names))
theorem zew {kf:Str→Option NameKind}{x:Str}:∀{bs:List (Str×Value)}{m:Str→Option Value},(∀v,(x,v) ∉ bs)→bindL kf bs m x=m x
 | [],m,_=>rfl
 | (n,v)::r,m,h=>by
  unfold bindL
  rw[zew λv q=>h v (List.mem_cons_of_mem _ q)]
  have:x≠n:=λe=>h v (e▸List.mem_cons_self)
  split<;>simp[this]
theorem zex {kf:Str→Option NameKind}{x:Str}:∀{bs:List (Str×Value)}{m:Str→Option Value},(∀v,(x,v) ∉ bs)→bindC kf bs m x=m x
 | [],m,_=>rfl
 | (n,v)::r,m,h=>by
  unfold bindC
  rw[zex λv q=>h v (List.mem_cons_of_mem _ q)]
  have:x≠n:=λe=>h v (e▸List.mem_cons_self)
  split<;>simp[this]
theorem zfX {kf:Str→Option NameKind}{x:Str}{v:Value} (hk:kf x=some .local):∀{bs:List (Str×Value)}{m:Str→Option Value},(bs.map (·.1)).Nodup→(x,v)∈bs→bindL kf bs m x=some v
 | (n,u)::r,m,hn,h=>by
  simp only[List.map_cons,List.nodup_cons]at hn
  unfold bindL
  rcases List.mem_cons.mp h with e | h
  ·cases e
   rw[zew λw q=>hn.1 (List.mem_map.mpr ⟨_,q,rfl⟩),if_pos hk]
   simp
  ·exact zfX hk hn.2 h
theorem ziP {kf:Str→Option NameKind}{x:Str}{v:Value} (hk:kf x≠some .local):∀{bs:List (Str×Value)}{m:Str→Option Value},(bs.map (·.1)).Nodup→(x,v)∈bs→bindC kf bs m x=some v
 | (n,u)::r,m,hn,h=>by
  simp only[List.map_cons,List.nodup_cons]at hn
  unfold bindC
  rcases List.mem_cons.mp h with e | h
  ·cases e
   rw[zex λw q=>hn.1 (List.mem_map.mpr ⟨_,q,rfl⟩),if_neg hk]
   simp
  ·exact ziP hk hn.2 h
section
variable {W:Wd}{F:Fns}{k N:Nat}
theorem zng {names:List (Str×NameKind)}{ns:List Str} (h:zjj names ns=true):ns.Nodup∧(∀x∈ns,(x == ("__debug__" : Str))=false)∧∀x∈ns,names.lookup x=some .local∨(names.lookup x=some .cell∧(x,NameKind.cell)∈names):=by
 simp only[zjj,Bool.and_eq_true,decide_eq_true_eq,List.all_eq_true,Bool.not_eq_true',Bool.or_eq_true]at h
 obtain⟨⟨h1,h2⟩,h3⟩:=h
 refine⟨h1,λx hx=>(h3 x hx).1,λx hx=>?_⟩
 rcases(h3 x hx).2 with q | q
 ·exact .inl (zag h2 q)
 ·exact .inr ⟨zag h2 q,q⟩
theorem zft {α β:Type}:∀{xs:List α}{ys:List β},xs.length=ys.length→(xs.zip ys).map (·.1)=xs
 | [],_,_=>by simp
 | x::xs,[],h=>by simp at h
 | x::xs,y::ys,h=>by simp only[List.zip_cons_cons,List.map_cons];rw[zft (by simpa using h)]
theorem zbk {x:Str}{a:Addr}{fd:FuncData}{body:List Stmt}{ns:List Str}{na nk:Nat}{ds:List D}{A:Around}{s:Shared}{vs:List Value} (D0:DefAt W x a fd body ns na) (hn:zjj fd.scope.names ns=true) (hlen:ns.length=na+nk)
  (hds:ds.length=na) (hr:Rm (k+1) A) (g:Gd W s) (ht:W.tk0≤s.toks) (r:RVs s.heap W.X ds vs) {Q E:Value→Shared→Prop}
  (h:∀c s1,c.k=k→c.env=callEnvC fd s.heap.objs.size a→c.ns=ns→c.no=ns.length→c.base=s→Rel W c (λ_=>none) (ds.map (λd=>some (.fz d))++List.replicate nk none) s1 →
   ∀E':Value→Shared→Prop,wpAny W.M c.A (execs body c.env) (λf s'=>Q (match f with | .ret v=>v | _=>.none) s') E' s1):wpAny W.M A (call (.ref a) vs) Q E s:=by
 refine xEA D0.obj λo ho hat=>?_
 refine xAA (zng hn) λn1 n2 n3=>?_
 have hvl:vs.length=na:=by rw[r.len,hds]
 have hbn:((ns.take na).zip vs).map (·.1)=ns.take na:=zft (by rw[List.length_take,hvl,hlen];lia)
 have bnd:(((ns.take na).zip vs).map (·.1)).Nodup:=by rw[hbn];exact n1.sublist (List.take_sublist _ _)
 have mem:∀p∈(ns.take na).zip vs,p.1∈ns:=λp hp=>List.mem_of_mem_take (hbn▸List.mem_map_of_mem hp)
 refine wpAny_call ?_
 refine codeAny_call_function (show A.depth < recursionLimit from by have:=hr.2.1;exact Nat.lt_of_le_of_lt (Nat.le_add_right _ _) (show A.depth+(k+1) < 1000 from this)) (hat _ g.1) ho D0.co D0.gen D0.body (D0.code _ g.1) ?_
 rw[D0.bind vs hvl,D0.clo]
 refine wpAny_pure (wpAny_with_toks (n:=s.toks) (Nat.le_refl _) (wpAny_newFunctionEnv_cells D0.kind (λp hp=>?_) λenv he s1 X htk=>?_))
 ·rcases n3 p.1 (mem p hp) with q | ⟨q,qc⟩
  ·exact .inl q
  ·exact .inr ⟨q,zK _ _ _ _ qc⟩
 subst he
 refine⟨(W.nolimit g.1).keeps X.toInCall.keep,codeAny_func ?_⟩
 refine xEE X.toInCall.same λh1 tk1 e1=>?_
 have keep:=X.toInCall.keep
 have newer:∀b,s.heap.objs.size≤b→s.heap.get? b=none:=λb hb=>by
  cases e:s.heap.get? b with
  | none=>rfl
  | some ob=>exact absurd (Heap.lt_size e) (Nat.not_lt.mpr hb)
 let env:=callEnvC fd s.heap.objs.size a
 let c:Cx:={k:=k,A:=A.deeper env,env:=env,base:=s,ns:=ns,no:=ns.length}
 have hko:∀y,env.kindOf y=fd.scope.names.lookup y:=λy=>rfl
 have stp:Stp W s s1:=by
  subst e1
  exact g.keeps (h:=h1) (tk:=tk1) keep (show s.toks≤tk1 from htk)
 have cok:CxOk W c :=
  {
    glob:=D0.glob,blt:=D0.blt,kind:=D0.kind,nd:=n1,dbg:=n2,room:=hr.deeper env,good:=g.1,toks:=ht,lnew:=newer _ (Nat.le_refl _),
    cnew:=λi y kk _ _ e=>by
     rcases zaD _ _ _ y kk (mem_of_lookup e) with ⟨q,_⟩ | q
     ·exact newer kk (Nat.le_trans (Nat.le_succ _) q)
     ·cases q
    kinds:=λi y hi hy=>by
     rcases n3 y (List.mem_of_getElem? hy) with q | ⟨q,qc⟩
     ·exact .inl q
     ·exact .inr ⟨q,zK _ _ _ _ qc⟩
    cinj:=λy z kk e1 e2=>name_of_addr X.apart (mem_of_lookup e1) (mem_of_lookup e2)}
 have rel:Rel W c (λ_=>none) (ds.map (λd=>some (.fz d))++List.replicate nk none) s1:=by
  refine⟨cok,stp,⟨_,X.toInCall.ns⟩,λy kk e=>⟨_,X.cell y kk e⟩,λi y b hy hb=>?_,(λi a e=>by cases e),(λi j a e=>by cases e)⟩
  have hi:i < ds.length:=by
   rcases Nat.lt_or_ge i ds.length with q | q
   ·exact q
   ·rw[List.getElem?_append_right (by simpa using q)]at hb
    rw[List.getElem?_replicate]at hb
    split at hb<;>cases hb
  rw[List.getElem?_append_left (by simpa using hi),List.getElem?_map]at hb
  rw[List.getElem?_eq_getElem hi]at hb
  cases hb
  refine xEA (r.at (List.getElem?_eq_getElem hi)) λv hv hrv=>?_
  have hmem:(y,v)∈(ns.take na).zip vs:=by
   refine List.mem_iff_getElem?.mpr ⟨i,?_⟩
   rw[List.getElem?_zip_eq_some]
   exact⟨by rw[List.getElem?_take,if_pos (by lia)];exact hy,hv⟩
  refine⟨v,?_,(hrv.step g.1 stp λ_ q=>q).weak ?_⟩
  ·rcases n3 y (List.mem_of_getElem? hy) with q | ⟨q,qc⟩
   ·exact .inl ⟨q,_,X.toInCall.ns,zfX q bnd hmem⟩
   ·refine xE (Option.isSome_iff_exists.mp (zK fd.scope.names (s.heap.objs.size+1) [] y qc)) λkk hkk=>?_
    refine .inr ⟨.inl q,kk,hkk,?_⟩
    have hnl:env.kindOf y≠some .local:=by rw[hko,q];decide
    refine xEA (X.cell y kk hkk) λob hc1 hc2=>?_
    exact⟨ob,hc1,hc2.trans (congrArg Data.cell (ziP hnl bnd hmem))⟩
  ·rintro b (q | ⟨j,q⟩)
   ·exact q
   ·cases q
 exact wpAny_mono (h c s1 rfl rfl rfl rfl rfl rel _) (λf s' q=>q) λ_ _ x=>x
theorem zqD {x:Str}{a:Addr}{fd:FuncData}{body:List Stmt}{ns:List Str}{na nk:Nat}{us:List U}{ds:List D}{d:D} (Z:Snd W F k) (D0:DefAt W x a fd body ns na) (hn:zjj fd.scope.names ns=true) (hlen:ns.length=na+nk)
  (hm:mSs {names:=fd.scope.names,ns:=ns,no:=ns.length} us body=true) (hds:ds.length=na) (hv:zbJ F N nk us ds=some d):zhh W (k+1) x ds d:=by
 refine xEA D0.obj λo ho hat=>?_
 refine⟨.ref a,D0.at_,⟨o,fd,ho,hat⟩,λA s vs hr g ht r Q E kk=>?_⟩
 refine zbk (nk:=nk) D0 hn hlen hds hr g ht r λc s1 e1 e2 e3 e4 e5 rl E'=>?_
 have fits:Fits c {names:=fd.scope.names,ns:=ns,no:=ns.length}:=⟨by rw[e2];exact D0.kind,by rw[e2];rfl,e3,e4⟩
 simp only[zbJ,Option.bind_eq_some_iff]at hv
 obtain⟨⟨fl,ρ'⟩,h1,h2⟩:=hv
 have EX:=zbL Z us _ c _ body fl ρ' e1 fits hm h1
 refine wpAny_mono (EX _ s1 rl E') (λf s' D=>?_) λ_ _ x=>x
 obtain⟨o',r',hf,_⟩:=D
 have stp:=r'.step
 rw[e5]at stp
 cases fl with
 | next =>
  simp only[zeM]at hf;subst hf
  cases h2
  exact kk _ _ stp rfl
 | brk=>cases h2
 | ret d' =>
  cases h2
  refine xEA hf λv q1_ hv=>?_;clear hf;subst q1_
  rw[e5]at hv
  exact kk _ _ stp (hv.weak λb q=>.inr q)
end
end Mine.Internal
end

noncomputable section
open PySem PySem.Calls PyProof.Rows PySem.SeqAt
namespace Mine.Internal
noncomputable def zbY:Nat→Value
 | 0=>.builtin "len" | 1=>.type "list" | 2=>.builtin "sum" | 3=>.builtin "sorted" | 4=>.builtin "max" | 5=>.builtin "chr" | 6=>.builtin "ord" | _=>.builtin "divmod"
section
variable {W:Wd}{k:Nat}
theorem zab.of_toL {fv:Value}{ds:List D}{d:D} (h:ToL W (λvs=>call fv vs) ds d):zab W k fv ds d:=λA s vs hr g _ r Q E kk=>h A s vs (hr.le (Nat.zero_le _)) g r Q E kk
theorem zkP {ds:List D}{d:D}{g:List D→Option D}{P:List D→Prop} (h:(on1 ds λe=>zad e g)=some d) (k:∀xs,g xs=some d→P [.list xs]):P ds:=by
 refine zkV h λe h2=>?_
 refine zeb h2 λxs h3=>?_
 exact k xs h3
theorem zkQ {ds:List D}{d:D}{g:Int→Int→Option D}{P:List D→Prop} (h:(on2 ds λa b=>zA a λa=>zA b λb=>g a b)=some d) (k:∀a b,g a b=some d→P [.int a,.int b]):P ds:=by
 refine ztt h λa b h1=>?_
 refine zaf h1 λa h2=>?_
 refine zaf h2 λb h3=>?_
 exact k a b h3
theorem zme {ds:List D}{d:D} (h:on1 ds zuP=some d):zab W k (.builtin "len") ds d:=by
 refine zkV h λe h2=>?_
 cases e with
 | list xs=>refine zay h2 λc h3=>?_;refine zo h3 ?_;exact .of_toL (zjJ c)
 | str x=>refine zay h2 λc h3=>?_;refine zo h3 ?_;exact .of_toL (zmi c)
 | _=>exact zl (show Option.none=some d from h2)
theorem zmd {ds:List D}{d:D} (h:zrf ds=some d):zab W k (.builtin "max") ds d:=by
 unfold zrf at h
 rcases ifP h with ⟨_,h⟩ | ⟨_,h⟩
 ·exact zkQ (P:=λds=>zab W k (.builtin "max") ds d) h λa b h=>by refine zo h ?_;exact .of_toL zuU
 ·exact zkP (P:=λds=>zab W k (.builtin "max") ds d) h λxs h=>by
   refine zf h λl h5 h6=>?_
   refine zhB h6 λm h7=>?_
   exact .of_toL (zxz h5 h7)
theorem zmc {ds:List D}{d:D} (h:(on1 ds λd=>zad d λxs=>(zbD xs).map λl=>D.int (zn l))=some d):zab W k (.builtin "sum") ds d :=
 zkP (P:=λds=>zab W k (.builtin "sum") ds d) h λxs h=>by
  refine zhB h λl h4=>?_
  exact .of_toL (zxx h4)
theorem zmf {ds:List D}{d:D} (h:(on1 ds λd=>zA d λa=>if 0≤a∧a≤1114111 then some (.str [a.toNat]) else Option.none)=some d):zab W k (.builtin "chr") ds d:=by
 refine zkV h λe h=>?_
 refine zaf h λa h=>?_
 refine zay h λc h=>?_
 refine zo h ?_;exact .of_toL (zxA c.1 c.2)
theorem znX {ds:List D}{d:D} (h:(on2 ds λa b=>zA a λa=>zA b λb=>if zby a b then some (.tup [.int (a.fdiv b),.int (a.fmod b)]) else Option.none)=some d):zab W k (.builtin "divmod") ds d :=
 zkQ (P:=λds=>zab W k (.builtin "divmod") ds d) h λa b h=>by
  refine zay h λc h=>?_
  refine zo h ?_;exact .of_toL (znZ c)
theorem zuM {f:Nat}{ds:List D}{d:D} (h:bi f ds=some d):zab W k (zbY f) ds d∧zba W (zbY f) :=
 ifE (P:=λf=>zab W k (zbY f) ds d∧zba W (zbY f)) h (λh=>⟨zme h,trivial⟩) λh =>
 ifE (P:=λf=>zab W k (zbY f) ds d∧zba W (zbY f)) h (λh=>⟨zmc h,trivial⟩) λh =>
 ifE (P:=λf=>zab W k (zbY f) ds d∧zba W (zbY f)) h (λh=>⟨zmd h,trivial⟩) λh =>
 ifE (P:=λf=>zab W k (zbY f) ds d∧zba W (zbY f)) h (λh=>⟨zmf h,trivial⟩) λh =>
 ifE (P:=λf=>zab W k (zbY f) ds d∧zba W (zbY f)) h (λh=>⟨znX h,trivial⟩) λh=>zl h
theorem zuc {f:Nat}{ds:List D}{d:D} (hf:FnAt W (zh f) (zbY f)) (h:bi f ds=some d):zhh W k (zh f) ds d:=⟨zbY f,hf,(zuM (W:=W) (k:=k) h).2,(zuM (W:=W) (k:=k) h).1⟩
end
end Mine.Internal
end

noncomputable section
open PySem PySem.Calls PyProof.Rows PySem.SeqAt
namespace Mine.Internal
section
variable {W:Wd}{k:Nat}{c:Cx}{ρ:zc}
theorem znH {κ:Kd}{e:Expr}{x:Str}{p pos:Pos}{n:Int}{b:Addr}{S:Int→Bool} (h1:Ev W .al c ρ e (.int n)) (hk:c.env.kindOf x=some .globalImplicit) (hf:FnAt W x (.ref b)) (hs:∀h,W.G h→∃m,h.SetOf (intKind W.prog W.w) b S m) :
  Ev W κ c ρ (.Compare e [.In] [.Name x p] pos) (.bool (S n)):=λo s rl Q E kk =>
 wpAny_Compare1 (h1 o s rl _ _ λv s1 x1 r1=>by
  refine zW r1 λt=>?_
  refine zaP hf hk (rl.mono x1) ?_
  refine xE (hs _ x1.g) λm hm=>?_
  exact wpAny_inSet_of (intKind_is _ _ _ _) rfl hm (kk _ _ (x1.trans (x1.gd.toks)) (zhr.mpr rfl)))
theorem zqS {κ:Kd}{e:Expr}{x:Str}{p apos pos:Pos}{n:Int}{b:Addr}{T:Int→Option (List Nat)} (h1:Ev W .al c ρ e (.int n)) (hn:ze [e]=true) (hp:(apos.endLine == pos.line)=true) (hk:c.env.kindOf x=some .globalImplicit) (hf:FnAt W x (.ref b)) (hb:(b == sysModules)=false)
  (hs:∀h,W.G h→∃f,h.MapOf (intKind W.prog W.w) b f∧∀i,match T i with | none=>f i=none | some y=>∃t,f i=some (.str (sv y) t)) :
  Ev W κ c ρ (.Call (.Attribute (.Name x p) "get" apos) [e] [] pos) ((T n).elim .none .str):=λo s rl Q E kk=>by
 refine zcJ rfl hn (show 1 < 30 by decide) hp (T:="dict") (id:="dict.get") ⟨F.plainAttrs_dict,F.slot_dict_get,F.type_dict_get⟩ Q E (zaP hf hk rl ?_)
 refine xEA (hs _ rl.gd.1) λf hm _=>?_
 refine⟨hm.typeIs,hm.noDict,zaE hn (zbx h1 zbg λenv=>(zv hn env).1) rl λvs s1 x1 r1=>?_⟩
 refine zch r1 λv q=>?_
 refine zW q λt=>?_
 refine xEA (hs _ x1.g) λg hm1 hg=>?_
 refine call_meetsIn F.slot_dict_get hm1.typeIs F.entry_dict_get (F.args_dict_get_2 _ _) (meets_dict_get _ b (intKind_is W.prog W.w n t) hb) ⟨g,hm1,?_⟩
 have:=hg n
 refine kk _ _ (x1.trans x1.gd.toks) ?_
 cases hT:T n with
 | none=>rw[hT]at this;rw[show g n=none from this];rfl
 | some y =>
  rw[hT]at this
  refine xE this λu hu=>?_;clear this
  rw[hu]
  exact zN.mpr ⟨u,rfl⟩
noncomputable def low (c:Nat):List Nat:=(Txt.lower (sv [c])).cps.toList
theorem zum {κ:Kd}{e:Expr}{apos pos:Pos}{x:Nat} (h1:Ev W .al c ρ e (.str [x])) (hb:zci e=true) (hp:(apos.endLine == pos.line)=true) (hl:(low x).length≤100) :
  Ev W κ c ρ (.Call (.Attribute e "lower" apos) [] [] pos) (.str (low x)):=λo s rl Q E kk=>by
 refine zcJ (es:=[]) hb rfl (show 0 < 30 by decide) hp (T:="str") (id:="str.lower") ⟨F.plainAttrs_str,F.slot_str_lower,F.type_str_lower⟩ Q E (h1 o s rl _ _ λv s1 x1 r1=>?_)
 refine zV r1 λt=>?_
 refine⟨typeIs_str _ _ _,(λ_ e=>nomatch e),zaE rfl zbg (rl.mono x1) λvs s2 x2 r2=>?_⟩
 cases zQ r2
 have hlen:(Txt.lower (sv [x])).length≤100:=by simpa [low,Str.length] using hl
 have hz:Builtin.Str.tooLong (Txt.lower (sv [x])).length=false:=by
  have h100:(100:Nat)≤sizeLine:=by decide
  unfold Builtin.Str.tooLong
  exact decide_eq_false (by omega)
 have st3:Stp W s {s2 with toks:=s2.toks+1}:=(x1.trans x2).trans x2.gd.toks
 exact SC.lower (A:=c.A) (E:=E) (t:=t) hz (kk _ _ st3 (zN.mpr ⟨s2.toks,by simp[low]⟩))
theorem zxa {x nc no nb:Str}{a b:Addr}{fd:FuncData}{p1 p2 p3 p4 p5 p6:Pos}{S:Int→Bool}{ch:Nat} (D0:DefAt W x a fd [.Return (some (.Compare (.Call (.Name no p1) [.Name nc p2] [] p3) [.In] [.Name nb p4] p5)) p6] [nc] 1)
  (hn:zjj fd.scope.names [nc]=true) (hord:FnAt W no (.builtin "ord")) (ko:fd.scope.names.lookup no=some .globalImplicit) (kb:fd.scope.names.lookup nb=some .globalImplicit) (hb:FnAt W nb (.ref b))
  (hs:∀h,W.G h→∃m,h.SetOf (intKind W.prog W.w) b S m):zhh W (k+1) x [.str [ch]] (.bool (S ch)):=by
 refine xEA D0.obj λo ho hat=>?_
 refine⟨.ref a,D0.at_,⟨o,fd,ho,hat⟩,λA s vs hr g ht r Q E kk=>?_⟩
 refine zbk (nk:=0) D0 hn rfl rfl hr g ht r λc s1 e1 e2 e3 e4 e5 rl E'=>?_
 have hk:∀y,c.env.kindOf y=fd.scope.names.lookup y:=λy=>by rw[e2];rfl
 have E1:Ev W .al c [some (.fz (.str [ch]))] (.Call (.Name no p1) [.Name nc p2] [] p3) (.int ch):=by
  refine zfQ (by rw[hk];exact ko) rfl (zbx (zer 0 (by rw[e3];rfl) rfl rfl) zbg λ_=>rfl) ⟨.builtin "ord",hord,trivial,.of_toL zuT⟩
 have EX:=zfk (pos:=p6) ((znH (κ:=.al) (p:=p4) (pos:=p5) E1 (by rw[hk];exact kb) hb hs).flat rfl)
 refine wpAny_mono (zaY (ss:=[]) EX nofun _ s1 rl E') (λf s' D=>?_) λ_ _ x=>x
 obtain⟨o',r',⟨v,rfl,hv⟩,_⟩:=D
 have stp:=r'.step
 rw[e5]at stp hv
 exact kk _ _ stp (hv.weak λb q=>.inr q)
noncomputable def isNone:D→Bool
 | .none=>true
 | _=>false
theorem zgj {d:D}{h:Heap}{X:Addr→Prop}{v:Value} (hd:d = .none∨∃x,d = .str x) (r:RV h X d v):(v == Value.none)=isNone d:=by
 rcases hd with rfl | ⟨x,rfl⟩
 ·rw[show v=Value.none from r];rfl
 ·refine zV r λt=>?_;rfl
theorem zgQ {c:Cx}{ρ:zc}{e:Expr}{d:D}{n:Nat}{p pos:Pos} (h1:Ev W .al c ρ e d) (hd:d = .none∨∃x,d = .str x):EvT W c ρ (.Compare e [.IsNot] [.Constant .none n p] pos) (!isNone d):=λo s rl Q E kk =>
 wpAny_isTrue_Compare1 (h1 o s rl _ _ λv s1 x1 r1=>wpAny_Constant_none (isNot_none (by
  rw[zgj hd r1]
  exact wpAny_truthy_bool (kk _ x1))))
theorem zwZ {x nc nr no nb:Str}{a b:Addr}{fd:FuncData}{p1 p2 p3 p4 p5 p6 p7 p8 p9 p10 p11 p12 p13 p14 p15 p16 p17 p18:Pos}{kc:Nat}{T:Int→Option (List Nat)}{ch:Nat}
  (D0:DefAt W x a fd [.Assign [.Name nr p1] (.Call (.Attribute (.Name nb p2) "get" p3) [.Call (.Name no p4) [.Name nc p5] [] p6] [] p7) p8,
   .If (.Compare (.Name nr p9) [.IsNot] [.Constant .none kc p10] p11) [.Return (some (.Name nr p12)) p13] [] p14,.Return (some (.Call (.Attribute (.Name nc p15) "lower" p16) [] [] p17)) p18] [nc,nr] 1)
  (hn:zjj fd.scope.names [nc,nr]=true) (q1:(p3.endLine == p7.line)=true) (q2:(p16.endLine == p17.line)=true) (hord:FnAt W no (.builtin "ord")) (ko:fd.scope.names.lookup no=some .globalImplicit) (kb:fd.scope.names.lookup nb=some .globalImplicit) (hb:FnAt W nb (.ref b)) (hbs:(b == sysModules)=false)
  (hs:∀h,W.G h→∃f,h.MapOf (intKind W.prog W.w) b f∧∀i,match T i with | none=>f i=none | some y=>∃t,f i=some (.str (sv y) t)) (hl:(low ch).length≤100) :
  zhh W (k+1) x [.str [ch]] (.str ((T ch).getD (low ch))):=by
 refine xEA D0.obj λo ho hat=>?_
 refine⟨.ref a,D0.at_,⟨o,fd,ho,hat⟩,λA s vs hr g ht r Q E kk=>?_⟩
 refine zbk (nk:=1) D0 hn rfl rfl hr g ht r λc s1 e1 e2 e3 e4 e5 rl E'=>?_
 have hk:∀y,c.env.kindOf y=fd.scope.names.lookup y:=λy=>by rw[e2];rfl
 have nm:∀(i:Nat) (y:Str),[nc,nr][i]? = some y→c.ns[i]? = some y:=λi y h=>by rw[e3];exact h
 have E1:Ev W .al c [some (.fz (.str [ch])),none] (.Call (.Name no p4) [.Name nc p5] [] p6) (.int ch) :=
  zfQ (by rw[hk];exact ko) rfl (zbx (zer 0 (nm 0 _ rfl) rfl rfl) zbg λ_=>rfl) ⟨.builtin "ord",hord,trivial,.of_toL zuT⟩
 have E2:=zqS (κ:=.ow) (p:=p2) (apos:=p3) (pos:=p7) E1 rfl q1 (by rw[hk];exact kb) hb hbs hs
 have X1:=zoF (p:=p1) (pos:=p8) (i:=1) (by rw[e4];exact Nat.lt_succ_self 1) (nm 1 _ rfl) E2 (by rfl)
 have fin:∀d ρ',Ex W c [some (.fz (.str [ch])),none] [.Assign [.Name nr p1] (.Call (.Attribute (.Name nb p2) "get" p3) [.Call (.Name no p4) [.Name nc p5] [] p6] [] p7) p8,
   .If (.Compare (.Name nr p9) [.IsNot] [.Constant .none kc p10] p11) [.Return (some (.Name nr p12)) p13] [] p14,.Return (some (.Call (.Attribute (.Name nc p15) "lower" p16) [] [] p17)) p18] (.ret d) ρ'→d = .str ((T ch).getD (low ch)) →
   wpAny W.M c.A (execs [.Assign [.Name nr p1] (.Call (.Attribute (.Name nb p2) "get" p3) [.Call (.Name no p4) [.Name nc p5] [] p6] [] p7) p8,
   .If (.Compare (.Name nr p9) [.IsNot] [.Constant .none kc p10] p11) [.Return (some (.Name nr p12)) p13] [] p14,.Return (some (.Call (.Attribute (.Name nc p15) "lower" p16) [] [] p17)) p18] c.env) (λf s'=>Q (match f with | .ret v=>v | _=>.none) s') E' s1:=by
  rintro d ρ' EX rfl
  refine wpAny_mono (EX _ s1 rl E') (λf s' D=>?_) λ_ _ x=>x
  obtain⟨o',r',⟨v,rfl,hv⟩,_⟩:=D
  have stp:=r'.step
  rw[e5]at stp hv
  exact kk _ _ stp (hv.weak λb q=>.inr q)
 cases hT:T ch with
 | none =>
  rw[hT]at X1
  have E3:=zgQ (W:=W) (n:=kc) (p:=p10) (pos:=p11) (zer (κ:=.al) (pos:=p9) (ρ:=zaU [some (.fz (.str [ch])),none] 1 (.fz .none)) 1 (nm 1 _ rfl) rfl rfl) (.inl rfl)
  have X2:=zlE (pos:=p14) (fl:=.next) (ρ':=zaU [some (.fz (.str [ch])),none] 1 (.fz .none)) (a:=[.Return (some (.Name nr p12)) p13]) (b:=[]) E3 (λh=>by cases h) λ_=>zlC
  have E4:=zum (W:=W) (κ:=.ba) (apos:=p16) (pos:=p17) (zer (κ:=.al) (pos:=p15) (ρ:=zaU [some (.fz (.str [ch])),none] 1 (.fz .none)) 0 (nm 0 _ rfl) rfl rfl) rfl q2 hl
  exact fin _ _ (zdL X1 (zdL X2 (zaY (zfk (pos:=p18) E4) nofun))) (by rw[hT];rfl)
 | some y =>
  rw[hT]at X1
  have E3:=zgQ (W:=W) (n:=kc) (p:=p10) (pos:=p11) (zer (κ:=.al) (pos:=p9) (ρ:=zaU [some (.fz (.str [ch])),none] 1 (.fz (.str y))) 1 (nm 1 _ rfl) rfl rfl) (.inr ⟨y,rfl⟩)
  have X3:=zfk (W:=W) (pos:=p13) (zer (κ:=.ba) (pos:=p12) (ρ:=zaU [some (.fz (.str [ch])),none] 1 (.fz (.str y))) 1 (nm 1 _ rfl) rfl rfl)
  have X2:=zlE (pos:=p14) (b:=[]) E3 (λ_=>zaY (ss:=[]) X3 nofun) λh=>by cases h
  exact fin _ _ (zdL X1 (zaY X2 nofun)) (by rw[hT];rfl)
end
end Mine.Internal
end

noncomputable section
open PySem PySem.Calls PyProof.Rows PySem.SeqAt
namespace Mine.Internal
section
variable {prog:Program}{w:World}{A:Around}{R:GenEnd}{Y:Protocol}{n:Nat}{s₀:Shared}{c:Code}{fs:List Frame}{s:Shared}{env:Env}
 {K:Flow→Sem Fin}{H:Value→Sem Fin}{gd:Bool→Bool}{lv:List Value→List Value}
theorem zdD {st:Stmt}{rest:List Stmt} (h:∀E:Value→Shared→Prop,wpAny (model prog w) (A.over c fs) (exec st env) (λf s'=>f = .next∧Seg (model prog w) A R Y n s₀ c ((execs rest env).wrap K H gd lv) fs s') E s) :
  Seg (model prog w) A R Y n s₀ c ((execs (st::rest) env).wrap K H gd lv) fs s :=
 seg_execs_cons (seg_wrap (wpAny_mono (h _) (λf s' x=>by obtain⟨rfl,x⟩:=x;exact x) λ_ _ x=>x))
theorem zkC {test:Expr}{body orelse:List Stmt}{pos:Pos} (h:∀E:Value→Shared→Prop,wpAny (model prog w) (A.over c fs) (isTrue test env (eval test env)) (λb s'=>Seg (model prog w) A R Y n s₀ c ((execs (if b=true then body else orelse) env).wrap K H gd lv) fs s') E s) :
  Seg (model prog w) A R Y n s₀ c ((exec (.If test body orelse pos) env).wrap K H gd lv) fs s:=by
 rw[exec_If]
 refine seg_bind_wrap (wpAny_standAt (seg_bind_wrap (wpAny_mono (h _) (λb s' x=>?_) λ_ _ x=>x)))
 cases b<;>exact x
noncomputable def zyg (env:Env) (K:Flow→Sem Fin) (H:Value→Sem Fin) (gd:Bool→Bool) (lv:List Value→List Value):Result→Sem Fin:=λr=>((match r with | .ok f=>(.pure f:Sem Flow) | .error e=>.raise e).onRaise λ(x:Value)=>do
    if (← field x 1) == Value.none then unsupported "frame.own-activation:exception-without-traceback"
    setFlight x env.frame).wrap K H gd lv
theorem zpF {target iter:Expr}{body orelse:List Stmt}{pos:Pos} (hfs:∀x,foldedSetIterable iter env x=pure x)
  (h:∀E:Value→Shared→Prop,wpAny (model prog w) (A.over c fs) (eval iter env) (λx s1=>wpAny (model prog w) (A.over c fs) (pyIter x) (λit s2=>∀p,Seg (model prog w) A R Y n s₀ (.forLoop target it body orelse env) ((model prog w).den (.forLoop target it body orelse env))
   (.ret (zyg env K H gd lv) none (gd false) (lv []) c p []::fs) s2) E s1) E s) :
  Seg (model prog w) A R Y n s₀ c ((exec (.For target iter body orelse pos) env).wrap K H gd lv) fs s:=by
 rw[exec_For]
 refine seg_bind_wrap (wpAny_standAt (seg_bind_wrap (wpAny_mono (h _) (λx s1 h1=>?_) λ_ _ x=>x)))
 refine seg_bind_wrap (wpAny_of_eq (hfs x) (seg_bind_wrap (wpAny_standAt (seg_bind_wrap (wpAny_holding (wpAny_mono h1 (λit s2 h2=>?_) λ_ _ x=>x))))))
 exact seg_call h2
noncomputable def zuI (loop:Code):Flow→Sem Fin:=λf=>match f with
      | .next | .cont=>.pure (.again loop)
      | .brk=>.pure (.done .next)
      | .ret v=>.pure (.done (.ret v))
noncomputable def zuJ (env:Env):Value→Sem Fin:=λe=>(do noteFrame e env;theTreesLotGoes e:Sem Unit).wrap (λ_=>.raise e) .raise id id
theorem zdX {target:Expr}{it:Value}{body:List Stmt}
  (h:∀E:Value→Shared→Prop,wpAny (model prog w) (A.over (.forLoop target it body [] env) fs) (pyNext it) (λr s1=>match r with
   | none=>Seg (model prog w) A R Y n s₀ (.block [] env) (.pure (.done .next)) fs s1
   | some v=>wpAny (model prog w) (A.over (.forLoop target it body [] env) fs) (letOwnedTupleGo target it v) (λ_ s2=>wpAny (model prog w) (A.over (.forLoop target it body [] env) fs) (assign target env v)
    (λ_ s3=>Seg (model prog w) A R Y n s₀ (.forLoop target it body [] env) ((execs body env).wrap (zuI (.forLoop target it body [] env)) (zuJ env) id id) fs s3) E s2) E s1) E s) :
  Seg (model prog w) A R Y n s₀ (.forLoop target it body [] env) ((model prog w).den (.forLoop target it body [] env)) fs s:=by
 show Seg _ A R Y n s₀ _ ((forTurn target it body [] env).onRaise (λx=>do noteFrame x env;theTreesLotGoes x)) fs s
 unfold forTurn
 rw[Sem.onRaise_eq_wrap]
 refine seg_bind_wrap (wpAny_standAt (seg_bind_wrap (wpAny_onRaise (wpAny_mono (h _) (λr s1 h1=>?_) λx s' hx=>wpAny_standAt hx))))
 cases r with
 | none =>
  refine seg_again rfl ?_
  show Seg _ A R Y n s₀ _ (do return Fin.done (← (execs [] env).onRaise (λx=>do noteFrame x env;theTreesLotGoes x))) fs s1
  exact h1
 | some v =>
  refine seg_bind_wrap (wpAny_mono h1 (λ_ s2 h2=>seg_bind_wrap (wpAny_mono h2 (λ_ s3 h3=>?_) λ_ _ x=>x)) λ_ _ x=>x)
  rw[Sem.bind_eq_wrap',Sem.wrap_wrap]
  rw[Sem.wrap_congr (execs body env) _ _ (K':=zuI (.forLoop target it body [] env)) (H':=zuJ env)
    (λf=>by cases f<;>rfl)
    (λe=>by first | exact Sem.bind_eq_wrap _ _ | (show(do noteFrame e env;theTreesLotGoes e:Sem Unit).bind (λ_=>.raise e)=_;rw[Sem.bind_eq_wrap];rfl))]
  exact h3
end
end Mine.Internal
end

noncomputable section
open PySem PySem.Calls PyProof.Rows PySem.SeqAt
namespace Mine.Internal
noncomputable def freed (o:Obj):Obj:={o with data:=.freed}
noncomputable def zfN:List Addr→Heap→Heap
 | [],h=>h
 | a::l,h=>(zfN l h).update a freed
theorem zlv (h:Heap) (a:Addr):(h.update a freed).get? a=none:=by
 cases e:(h.update a freed).get? a with
 | none=>rfl
 | some o =>
  refine xA (Heap.get?_some_iff.mp e) λe1 e2=>?_
  exfalso
  cases h
  simp only[Heap.update,Array.getElem?_modify,if_true]at e1
  rename_i objs life
  cases hq:objs[a]? with
  | none=>rw[hq]at e1;cases e1
  | some ob =>
   rw[hq]at e1
   cases e1
   simp[Obj.isFreed,freed]at e2
theorem zcN (l:List Addr) (h:Heap) (b:Addr):(zfN l h).get? b=if b∈l then none else h.get? b:=by
 induction l with
 | nil=>simp[zfN]
 | cons a l ih =>
  unfold zfN
  by_cases hb:b=a
  ·subst hb;rw[zlv,if_pos (List.mem_cons_self)]
  ·rw[Heap.get?_update_other _ _ (Ne.symm hb),ih]
   simp[hb]
noncomputable def bs (l:List Addr) (s:Shared):Shared:={s with heap:=zfN l s.heap}
theorem zbl {l:List Addr}{s:Shared}{b:Addr} (h:b ∉ l):(bs l s).heap.get? b=s.heap.get? b:=by show(zfN l s.heap).get? b=_;rw[zcN,if_neg h]
theorem zcq {l:List Addr}{s:Shared}{b:Addr} (h:b∈l):(bs l s).heap.get? b=none:=by show(zfN l s.heap).get? b=_;rw[zcN,if_pos h]
noncomputable def Own (W:Wd) (l:List Addr) (s:Shared):Prop:=∀a∈l,¬W.Sy a∧∀o,s.heap.get? a=some o→zau o
theorem zlV {W:Wd}{l:List Addr}{s:Shared} (g:W.G s.heap) (h:Own W l s):W.G (bs l s).heap:=W.keep g λb o e q=>by
 rw[zbl]
 ·exact e
 ·intro hb
  rcases q with q | q
  ·exact(h b hb).1 q
  ·exact((h b hb).2 o e).code q
theorem zuG {W:Wd}{l:List Addr}{s:Shared} (g:Gd W s):Stp W (bs l s) s :=
 ⟨λb o e _=>by
  by_cases hb:b∈l
  ·rw[zcq hb]at e;cases e
  ·rw[zbl hb]at e;exact e,g.1,rfl,λ_ _ e=>e,g.2,Nat.le_refl _⟩
structure GEnv (env:Env) (ns:List Str):Prop where
 glob:env.globals=mainGlobals
 blt:env.builtins=builtinsNs
 kind:env.scope.kind = .function
 cells:env.cells=[]
 nd:ns.Nodup
 dbg:∀x∈ns,(x == ("__debug__" : Str))=false
 kinds:∀x∈ns,env.kindOf x=some .local
noncomputable def zyp (W:Wd) (h:Heap) (ns:List Str) (m:Str→Option Value) (ρ:zc):Prop :=
 ∀(i:Nat) (x:Str) (b:B),ns[i]? = some x→ρ[i]? = some (some b)→∃(d:D) (v:Value),b=B.fz d∧zbp d=true∧m x=some v∧RV h W.X d v
section
variable {W:Wd}{env:Env}{ns:List Str}{l:List Addr}{s s':Shared}{k:Nat}{A A':Around}{ρ:zc}{m:Str→Option Value}{c:Cx}{o:Nat→Option Addr}
noncomputable def gcx (k:Nat) (A:Around) (env:Env) (ns:List Str) (b:Shared):Cx:={k:=k,A:=A,env:=env,base:=b,ns:=ns,no:=ns.length}
theorem zos (G:GEnv env ns) (g:Gd W s) (ht:W.tk0≤s.toks) (hn:s.heap.Ns env.locals m) (hl:env.locals∈l) (ho:Own W l s) (hr:Rm k A) (hv:zyp W s.heap ns m ρ):Rel W (gcx k A env ns (bs l s)) (λ_=>none) ρ s:=by
 refine⟨{
   glob:=G.glob,blt:=G.blt,kind:=G.kind,nd:=G.nd,dbg:=G.dbg,room:=hr,good:=zlV g.1 ho,toks:=ht,lnew:=zcq hl,
   cnew:=λi x k _ _ e=>?_,kinds:=λi x _ hx=>.inl (G.kinds x (List.mem_of_getElem? hx)),cinj:=λx y k e _=>?_},zuG g,⟨m,hn⟩,λx k e=>?_,λi x b hx hb=>?_,(λi a e=>by cases e),λi j a e=>by cases e⟩
 ·rw[show(gcx _ A env ns (bs l s)).env.cells=[] from G.cells]at e;cases e
 ·rw[show(gcx _ A env ns (bs l s)).env.cells=[] from G.cells]at e;cases e
 ·rw[show(gcx _ A env ns (bs l s)).env.cells=[] from G.cells]at e;cases e
 ·refine zar (hv i x b hx hb) λd v q2_ hf hm hr=>?_;subst q2_
  exact⟨v,.inl ⟨G.kinds x (List.mem_of_getElem? hx),m,hn,hm⟩,hr.flat hf⟩
theorem Rel.setA (rl:Rel W c o ρ s) (hr:Rm k A'):Rel W {c with k:=k,A:=A'} o ρ s:=by
 obtain⟨ok,h1,h2,h3,h4,h5,h6⟩:=rl
 exact⟨{glob:=ok.glob,blt:=ok.blt,kind:=ok.kind,nd:=ok.nd,dbg:=ok.dbg,room:=hr,good:=ok.good,toks:=ok.toks,lnew:=ok.lnew,cnew:=ok.cnew,kinds:=ok.kinds,cinj:=ok.cinj},h1,h2,h3,h4,h5,h6⟩
noncomputable def fzB (b:B):Bool:=match b with
 | .fz d=>zbp d
 | .mu _=>false
noncomputable def fzO (o:Option B):Bool:=match o with
 | none=>true
 | some b=>fzB b
noncomputable def zuY (ρ:zc):Bool:=ρ.all fzO
theorem zmX (G:GEnv env ns) (rl:Rel W (gcx k A env ns s') o ρ s) (hf:zuY ρ=true):∃m,s.heap.Ns env.locals m∧zyp W s.heap ns m ρ:=by
 refine xE rl.loc λm hm=>?_
 refine⟨m,hm,λi x b hx hb=>?_⟩
 refine xEA (rl.vars i x b hx hb) λv hv hbv=>?_
 have:=List.all_eq_true.mp hf _ (List.mem_of_getElem? hb)
 cases b with
 | mu xs=>exact(Bool.false_ne_true this).elim
 | fz d =>
  refine⟨d,v,rfl,this,?_,RV.weak hbv λa q=>.inl q⟩
  rcases hv with ⟨_,m',hm',hx'⟩ | ⟨_,k,hk,_⟩
  ·have em:m=m':=by
    funext z
    refine zbr hm λo2 es ep h2 h3 h4 h5=>?_;clear hm
    refine zbr hm' λo3 es' ep' h6 h7 h8 h9=>?_;clear hm'
    rw[show(gcx k A env ns s').env.locals=env.locals from rfl]at h6 h2
    rw[h2]at h6;cases h6;rw[h3]at h7;cases h7
    rw[← h5,← h9]
   rw[em];exact hx'
  ·rw[show(gcx _ A env ns s').env.cells=[] from G.cells]at hk;cases hk
end
end Mine.Internal
end

noncomputable section
open PySem PySem.Calls PyProof.Rows PySem.SeqAt
namespace Mine.Internal
section
variable {prog:Program}{w:World}{A:Around}{E:Value→Shared→Prop}{s:Shared}
theorem zin {a:Addr}{g n:Nat}{gs:GenState}{P:Nat→Shared→Shared→Prop}{Y:Protocol}{Q:Option Value→Shared→Prop} (hh:A.handled=none)
  (hl:s.heap.NoLimit) (hroom:A.depth < recursionLimit)
  (hg:s.heap.IsGen a g) (hgs:s.gens[g]? = some gs)
  (hgo:gs.Goes (model prog w) A.in1 (λn s₀ r s₁=>r = .ok (.ret .none)∧P n s₀ s₁) Y n (.send .none) (s.setGen g .running))
  (hY:∀v s₁ gs',gs'.bare=true→Y (n - 1) (s.setGen g .running) v s₁ (λr' s''=>match n with
    | 0=>False
    | m+1=>gs'.Goes (model prog w) A.in1 (λn s₀ r s₁=>r = .ok (.ret .none)∧P n s₀ s₁) Y m r' s'')→Q (some v) (s₁.setGen g gs'))
  (hP:∀s₁,P n (s.setGen g .running) s₁→∀h',(∀b o,s₁.heap.get? b=some o→h'.get? b=some o)→Q none {s₁.setGen g .finished with heap:=h'}) :
  wpAny (model prog w) A (pyNext (.ref a)) Q E s:=by
 unfold pyNext
 refine wpAny_bind (wpAny_attempt (wpAny_callSpecial?_slot (name:=Str.ofString "__next__") hg.typeIs slot_gen_next
  (wpAny_call_entry slot_gen_next hg.typeIs entry_gen_next ?_ (args_gen_next _))))
 show wpAny _ A.in1 (Builtin.Generator.genWake (.ref a) (.send .none)) _ _ s
 unfold Builtin.Generator.genWake
 refine wpAny_bind (wpAny_holding (wpAny_genNumber hg (wpAny_bind (wpAny_genState hgs ?_))))
 cases gs with
 | running=>exact hgo.elim
 | finished=>exact hgo.elim
 | _ =>
  refine wpAny_bind (wpAny_roomToWake hl hroom ?_)
  show wpAny _ A.in1 (.resume g (.send .none) [] _) _ _ s
  refine wpAny_resumeQ hgs hgo (λx s₁ hx=>?_) (λv s₁ gs' hb hv=>?_)
  ·refine xA hx λq0_ hp=>?_;clear hx;subst q0_
   show wpAny _ A.in1 (newExc (.type "StopIteration") [] >>= _) _ _ _
   refine wpAny_bind ?_
   simp only[newExc,newTuple]
   refine wpAny_bind (wpAny_newObj_type ?_ (by size_fits))
   refine wpAny_bind (m:=firstArgMember _ _) (wpAny_of_eq (a:=Value.none) (by first | rfl | (simp only[firstArgMember];rfl)) ?_)
   refine wpAny_newObj_type ?_ (by size_fits)
   unfold raiseNew
   refine wpAny_bind (wpAny_bind (wpAny_handled ?_))
   first | rw[show A.in1.handled=none from hh] | rw[hh]
   refine wpAny_throw ?_
   refine wpAny_bind (wpAny_isInstance (T:="StopIteration") (b:=true) ⟨_,Heap.get?_push_size _ rfl,rfl⟩ isSubtype_stop ?_)
   exact wpAny_pure (hP s₁ hp _ λb o hb=>Heap.get?_push_of_some _ (Heap.get?_push_of_some _ hb))
  ·exact wpAny_pure ⟨v,rfl,wpAny_pure (hY v s₁ gs' hb hv)⟩
end
theorem zkF {k:Nat}{A:Around}{b:List Stmt}{env:Env} (hr:Rm (k+2) A):Rm k (A.in1.over (.func b env) []):=by
 refine xAA hr λh1 h2 h3=>?_;clear hr
 refine⟨h1,?_,?_⟩
 ·show A.depth+0+1+k < 1000;lia
 ·show A.units+1+0+3+8*k < 9000;lia
theorem zpM {k:Nat}{A:Around}{b:List Stmt}{env:Env}{t:Expr}{it:Value}{bd:List Stmt}{kk:Result→Sem Fin}{l:List Value}{p:Pos} (hr:Rm (k+2) A):Rm k (A.in1.over (.forLoop t it bd [] env) [.ret kk none false l (.func b env) p []]):=by
 refine xAA hr λh1 h2 h3=>?_;clear hr
 refine⟨h1,?_,?_⟩
 ·show A.depth+1+0+k < 1000;lia
 ·show A.units+1+(3+0)+0+8*k < 9000;lia
theorem zlL {prog:Program}{w:World} (x:Str) (t:Tok) (e it:Addr) (hei:e≠it):∀A':Around,A'.handled=none →
  WalksU prog w A' e [e,it] [e,it] x.cps.size (λi vals=>∃t' v,(∃c u,x.cps[i]? = some c∧v = .str ⟨#[c]⟩ u)∧vals = #[.int i t',v])
   (λi h=>(∃old,IsEnum h e it i old)∧h.IsStrIter it (strIterType x) x t i) (λi T h=>(∃y,IsEnumOut h e it ((i:Int)+1) y T)∧h.IsStrIter it (strIterType x) x t (i+1)∧T≠e∧T≠it):=by
 intro A' hA
 by_cases hx:x.cps.all (· < 128)=true
 ·have e1:strIterType x = "str_ascii_iterator":=by unfold strIterType;rw[if_pos hx]
  rw[e1]
  exact(WalksT.enumerateD (Draws.strAscii (A:=A'.in1) hA it x t) e hei (by simpa using hei) (by simp)).toU
 ·have e1:strIterType x = "str_iterator":=by unfold strIterType;rw[if_neg hx]
  rw[e1]
  exact(WalksT.enumerateD (Draws.strWide (A:=A'.in1) hA it x t) e hei (by simpa using hei) (by simp)).toU
noncomputable def zrq (i:Nat):Int:=if i=0 then 0 else(i:Int) - 1
noncomputable def zcQ:List Nat→Nat→Bool→List D
 | [],i,e=>if e then[.tup [.int (zrq i),.str [92]]] else[]
 | ch::r,i,e=>if e then .tup [.int i,.str [92,ch]]::zcQ r (i+1) false else if ch=92 then zcQ r (i+1) true else .tup [.int i,.str [ch]]::zcQ r (i+1) false
theorem zxj {i:Nat}:zcQ [] i false=[]:=rfl
theorem zxi {i:Nat}:zcQ [] i true=[.tup [.int (zrq i),.str [92]]]:=rfl
noncomputable def rho (x:List Nat) (i:Nat) (esc:Bool):zc:=[some (.fz (.str x)),some (.fz (.int (zrq i))),some (.fz (.bool esc)),if i=0 then none else some (.fz (.str [x.getD (i - 1) 0]))]
end Mine.Internal
end

noncomputable section
open PySem PySem.Calls PyProof.Rows PySem.SeqAt
namespace Mine.Internal
noncomputable def sim (d:D):Bool:=match d with
 | .int _=>true
 | .str _=>true
 | .bool _=>true
 | .none=>false
 | .list _=>false
 | .tup _=>false
 | .tk _ _=>false
noncomputable def simB (b:B):Bool:=match b with
 | .fz d=>sim d
 | .mu _=>false
noncomputable def simO (o:Option B):Bool:=match o with
 | none=>true
 | some b=>simB b
noncomputable def zml (ρ:zc):Bool:=ρ.all simO
theorem zsC {h h':Heap}{X X':Addr→Prop}{d:D}{v:Value} (hs:sim d=true) (r:RV h X d v):RV h' X' d v:=by
 cases d<;>first | exact r | exact(Bool.false_ne_true hs).elim
theorem zhs (x:List Nat) (i:Nat) (esc:Bool):zml (rho x i esc)=true:=by
 unfold rho
 by_cases h:i=0
 ·rw[if_pos h];rfl
 ·rw[if_neg h];rfl
noncomputable def FG (ob:Obj):Prop:=(∃vs,ob.data = .fields vs)∧ob.cls≠.type "generator"
noncomputable def zvd (s₀ s:Shared) (b:Addr):Prop:=s₀.heap.get? b=none∧∀ob,s.heap.get? b=some ob→FG ob
theorem zvd.f {s₀ s:Shared}{b:Addr} (h:zvd s₀ s b):zrz s₀ s b:=⟨h.1,λob e=>(h.2 ob e).1⟩
structure Eff (W:Wd) (sC:Shared) (L:Addr) (lw lf:List Addr) (s₀ s:Shared):Prop where
 stp:Stp W (bs lw s₀) s
 mem:L∈lf
 ow:∀b∈lw,¬W.Sy b∧(∀ob,s₀.heap.get? b=some ob→zau ob)∧(b=L∨zvd sC s₀ b)
 of_:∀b∈lf,b∈lw∧s.heap.get? b≠none∧(∀ob,s.heap.get? b=some ob→zau ob∧(b=L∨FG ob))
noncomputable def gR (W:Wd) (sC:Shared) (L:Addr):GenEnd:=λn s₀ r s₁=>r = .ok (.ret .none)∧(n=0∧∃lw lf,Eff W sC L lw lf s₀ s₁)
noncomputable def gY (W:Wd) (sC:Shared) (L:Addr) (total:List D):Protocol:=λm s₀ v s kap=>∃lw lf,(∃d,total[total.length - 1 - m]? = some d∧RV s.heap W.X d v)∧Eff W sC L lw lf s₀ s ∧
 ∀s'',Gd W s''→W.tk0≤s''.toks→(∀b∈lf,∀o,s.heap.get? b=some o→s''.heap.get? b=some o)→kap (.send .none) s''
section
variable {W:Wd}{k:Nat}{env:Env}{ns:List Str} (G:GEnv env ns) {A:Around}{sC s₀ s:Shared}{l lw lf:List Addr}{total:List D}{o:Nat→Option Addr}{ρ:zc}
include G
theorem ziZ {A' A'':Around}{s1 s'':Shared} (hL:env.locals∈lf) (rl:Rel W (gcx k A' env ns (bs lw s₀)) o ρ s1) (hs:zml ρ=true) (hown:∀b∈lf,¬W.Sy b∧s1.heap.get? b≠none∧∀ob,s1.heap.get? b=some ob→zau ob)
  (g:Gd W s'') (ht:W.tk0≤s''.toks) (ha:∀b∈lf,∀ob,s1.heap.get? b=some ob→s''.heap.get? b=some ob) (hr:Rm k A''):Rel W (gcx k A'' env ns (bs lf s'')) (λ_=>none) ρ s'':=by
 have hfz:zuY ρ=true:=by
  refine List.all_eq_true.mpr λx hx=>?_
  have:=List.all_eq_true.mp hs x hx
  revert this
  cases x with
  | none=>exact id
  | some b=>cases b with
   | mu xs=>exact λh=>(Bool.false_ne_true h).elim
   | fz d=>cases d<;>first | exact id | exact λh=>(Bool.false_ne_true h).elim
 refine xEA (zmX G rl hfz) λm hm hv=>?_
 have hm':s''.heap.Ns env.locals m:=by
  refine zaA hm λob es ep h1 r=>?_;clear hm
  exact⟨ob,es,ep,ha _ hL ob h1,r⟩
 refine zos G g ht hm' hL (λb hb=>⟨(hown b hb).1,λob e=>?_⟩) hr λi x b hx hb=>?_
 ·cases e1:s1.heap.get? b with
  | none=>exact absurd e1 (hown b hb).2.1
  | some ob1 =>
   have:=ha b hb ob1 e1
   rw[e]at this;cases this
   exact(hown b hb).2.2 ob e1
 ·refine zar (hv i x b hx hb) λd v q2_ hf hmx hrv=>?_;subst q2_
  have:sim d=true:=List.all_eq_true.mp hs _ (List.mem_of_getElem? hb)
  exact⟨d,v,rfl,hf,hmx,zsC this hrv⟩
theorem zeo {e:Expr}{y q:Pos}{d:D}{n:Nat}{c:Code}{fs:List Frame}{K:Flow→Sem Fin}{H:Value→Sem Fin} (hco:env.scope.isCoroutine=false) (hfs:splitAtGen fs=none) (hfg:fs.any Frame.guarded=false)
  (hL:env.locals∈lf) (rl:Rel W (gcx k (A.over c fs) env ns (bs lw s₀)) o ρ s) (hs:zml ρ=true) (he:Ev W .al (gcx k (A.over c fs) env ns (bs lw s₀)) ρ e d) (hd:total[total.length - 1 - n]? = some d)
  (how:∀b∈lw,¬W.Sy b∧(∀ob,s₀.heap.get? b=some ob→zau ob)∧(b=env.locals∨zvd sC s₀ b))
  (hof:∀b∈lf,b∈lw∧s.heap.get? b≠none∧(∀ob,s.heap.get? b=some ob→zau ob∧(b=env.locals∨FG ob)))
  (rest:∀s1 s'',Stp W s s1→Gd W s''→W.tk0≤s''.toks→(∀b∈lf,∀ob,s1.heap.get? b=some ob→s''.heap.get? b=some ob)→(∀A'',Rm k A''→Rel W (gcx k A'' env ns (bs lf s'')) (λ_=>none) ρ s'') →
   Seg W.M A (gR W sC env.locals) (gY W sC env.locals total) n s'' c (K .next) fs s'') :
  Seg W.M A (gR W sC env.locals) (gY W sC env.locals total) (n+1) s₀ c ((exec (.Expr (.Yield (some e) y) q) env).wrap K H id id) fs s:=by
 refine seg_Expr_Yield hfs rfl hfg (he o s rl _ _ λv s1 x1 r1 kap hkap=>?_) hco (by unfold interactive;rw[G.kind];rfl)
 have rl1:=rl.mono x1
 have hnX:∀b∈lf,¬W.X b:=λb hb q=>(how b (hof b hb).1).1 (W.xsy _ q)
 have keep:∀b∈lf,∀ob,s.heap.get? b=some ob→s1.heap.get? b=some ob:=λb hb ob e=>x1.evo b ob e (hnX b hb)
 have same:∀b∈lf,∀ob,s1.heap.get? b=some ob→s.heap.get? b=some ob:=λb hb ob e=>by
  cases q:s.heap.get? b with
  | none=>exact absurd q (hof b hb).2.1
  | some ob'=>rw[keep b hb ob' q]at e;cases e;rfl
 have hof1:∀b∈lf,b∈lw∧s1.heap.get? b≠none∧(∀ob,s1.heap.get? b=some ob→zau ob∧(b=env.locals∨FG ob)):=λb hb=>by
  refine xAA (hof b hb) λa1 a2 a3=>?_
  exact⟨a1,x1.alive rl.step.g a2,λob e=>a3 ob (same b hb ob e)⟩
 exact⟨lw,lf,⟨d,hd,r1⟩,⟨rl1.step,hL,how,hof1⟩,λs'' g ht ha=>hkap .none s'' (rest s1 s'' x1 g ht ha λA'' hr=>ziZ G hL rl1 hs (λb hb=>⟨(how b (hof b hb).1).1,(hof1 b hb).2.1,λob e=>((hof1 b hb).2.2 ob e).1⟩) g ht ha hr)⟩
end
end Mine.Internal
end

noncomputable section
open PySem PySem.Calls PyProof.Rows PySem.SeqAt
namespace Mine.Internal
structure GTxt where
 S1:Stmt
 S2:Stmt
 S3:Stmt
 S4:Stmt
 t1:Expr
 t2:Expr
 t3:Expr
 e1:Expr
 e2:Expr
 e3:Expr
 tgts:List Expr
 kt:Nat
 pt:Pos
 iter:Expr
 y1:Pos
 y2:Pos
 y3:Pos
 q1:Pos
 q2:Pos
 q3:Pos
 q4:Pos
 q5:Pos
 q6:Pos
 q7:Pos
noncomputable def GTxt.tgt (g:GTxt):Expr:=.Tuple g.tgts g.kt g.pt
noncomputable def GTxt.body (g:GTxt):List Stmt:=[.If g.t1 [.Expr (.Yield (some g.e1) g.y1) g.q1,g.S3] [.If g.t2 [g.S4] [.Expr (.Yield (some g.e2) g.y2) g.q2] g.q3] g.q4]
noncomputable def GTxt.last (g:GTxt):Stmt:=.If g.t3 [.Expr (.Yield (some g.e3) g.y3) g.q5] [] g.q6
noncomputable def GTxt.all (g:GTxt):List Stmt:=[g.S1,g.S2,.For g.tgt g.iter g.body [] g.q7,g.last]
noncomputable def GTxt.ok (sc:Sc) (g:GTxt):Bool :=
 mS sc (.set 1 (.lit (.int 0))) g.S1 && mS sc (.set 2 (.lit (.bool false))) g.S2 && mS sc (.set 2 (.lit (.bool false))) g.S3 && mS sc (.set 2 (.lit (.bool true))) g.S4 &&
 mQ sc (.val (.var 2)) g.t1 && mQ sc (.val (.cmp .Eq (.var 3) (.lit (.str [92])))) g.t2 && mQ sc (.val (.var 2)) g.t3 &&
 mE sc (.tup [.var 1,.bin .Add (.lit (.str [92])) (.var 3)]) g.e1 && mE sc (.tup [.var 1,.var 3]) g.e2 && mE sc (.tup [.var 1,.lit (.str [92])]) g.e3 && mN sc g.tgts [1,3] && zgF g.iter
noncomputable def Kf:Flow→Sem Fin:=λf=>.pure (.done (.ret (match f with | .ret v=>v | _=>.none)))
noncomputable def Hf (env:Env):Value→Sem Fin:=λe=>(leaving env e).wrap (λ_=>.raise e) .raise id id
noncomputable def K1 (env:Env) (g:GTxt):Flow→Sem Fin:=λf=>match f with | .next=>(execs [g.last] env).wrap Kf (Hf env) id id | f=>Kf f
noncomputable def gFr (env:Env) (g:GTxt) (fb:List Stmt) (p:Pos):Frame:=.ret (zyg env (K1 env g) (Hf env) id id) none false [] (.func fb env) p []
theorem zlx {W:Wd}{A:Around}{sC s₀ s:Shared}{env:Env}{fb:List Stmt}{lw lf:List Addr}{tot:List D} (h:Eff W sC env.locals lw lf s₀ s):Seg W.M A (gR W sC env.locals) (gY W sC env.locals tot) 0 s₀ (.func fb env) (Kf .next) [] s :=
 seg_end (.ok (.ret .none)) ⟨rfl,rfl,lw,lf,h⟩
structure GOk (sc:Sc) (g:GTxt):Prop where
 g1:mS sc (.set 1 (.lit (.int 0))) g.S1=true
 g2:mS sc (.set 2 (.lit (.bool false))) g.S2=true
 g3:mS sc (.set 2 (.lit (.bool false))) g.S3=true
 g4:mS sc (.set 2 (.lit (.bool true))) g.S4=true
 g5:mQ sc (.val (.var 2)) g.t1=true
 g6:mQ sc (.val (.cmp .Eq (.var 3) (.lit (.str [92])))) g.t2=true
 g7:mQ sc (.val (.var 2)) g.t3=true
 g8:mE sc (.tup [.var 1,.bin .Add (.lit (.str [92])) (.var 3)]) g.e1=true
 g9:mE sc (.tup [.var 1,.var 3]) g.e2=true
 g10:mE sc (.tup [.var 1,.lit (.str [92])]) g.e3=true
 g11:mN sc g.tgts [1,3]=true
 g12:zgF g.iter=true
theorem GTxt.parts {sc:Sc}{g:GTxt} (h:g.ok sc=true):GOk sc g:=by
 refine zj h λh g12=>?_
 refine zj h λh g11=>?_
 refine zj h λh g10=>?_
 refine zj h λh g9=>?_
 refine zj h λh g8=>?_
 refine zj h λh g7=>?_
 refine zj h λh g6=>?_
 refine zj h λh g5=>?_
 refine zj h λh g4=>?_
 refine zj h λh g3=>?_
 refine zj h λg1 g2=>?_
 exact⟨g1,g2,g3,g4,g5,g6,g7,g8,g9,g10,g11,g12⟩
structure GH (W:Wd) (F:Fns) (k:Nat) (sc:Sc) (env:Env) (g:GTxt) (A:Around) (e it:Addr):Prop where
 Z:Snd W F k
 G:GEnv env sc.ns
 hnm:env.scope.names=sc.names
 hno:sc.no=sc.ns.length
 hn4:sc.ns.length=4
 ok:GOk sc g
 hco:env.scope.isCoroutine=false
 hA:Rm (k+2) A
 hei:e≠it
 hLe:e≠env.locals
 hLi:it≠env.locals
section
variable {W:Wd}{F:Fns}{k:Nat}{sc:Sc}{env:Env}{g:GTxt}{A:Around}{e it:Addr} (H:GH W F k sc env g A e it) {sC:Shared}{x:List Nat}{t:Tok}
include H
noncomputable abbrev ENs (x:List Nat) (t:Tok) (e it:Addr) (i:Nat) (h:Heap):Prop:=(∃old,IsEnum h e it i old)∧h.IsStrIter it (strIterType (sv x)) (sv x) t i
noncomputable abbrev gl (env:Env) (e it:Addr):List Addr:=[env.locals,e,it]
theorem zoE {A':Around}{b:Shared}:Fits (gcx k A' env sc.ns b) sc:=⟨H.G.kind,H.hnm,rfl,H.hno.symm⟩
noncomputable def zgb (W:Wd) (sC s₀:Shared) (env:Env) (e it:Addr):Prop:=∀b∈gl env e it,¬W.Sy b∧(∀ob,s₀.heap.get? b=some ob→zau ob)∧(b=env.locals∨zvd sC s₀ b)
theorem zlM {i:Nat}{h:Heap} (st:ENs x t e it i h):(∃ob,h.get? e=some ob∧FG ob∧zau ob)∧∃ob,h.get? it=some ob∧FG ob∧zau ob:=by
 obtain⟨⟨old,he⟩,ob,ho,hc,hd⟩:=st
 refine⟨⟨_,he,⟨⟨_,rfl⟩,λq=>absurd (Value.type.inj q) (by decide)⟩,.inl ⟨λq=>absurd (Value.type.inj q) (by decide),λq=>absurd (Value.type.inj q) (by decide),λq=>absurd (Value.type.inj q) (by decide)⟩⟩,ob,ho,⟨⟨_,hd⟩,?_⟩,.inl ?_⟩
 ·rw[hc];unfold strIterType;split<;>decide
 ·rw[zbS,hc]
  unfold strIterType
  split<;>decide
theorem zfD {A':Around}{s₀ s:Shared}{o:Nat→Option Addr}{ρ:zc}{i:Nat} (kn:zgb W sC s₀ env e it) (rl:Rel W (gcx k A' env sc.ns (bs (gl env e it) s₀)) o ρ s) (st:ENs x t e it i s.heap) :
  ∀b∈gl env e it,b∈gl env e it∧s.heap.get? b≠none∧(∀ob,s.heap.get? b=some ob→zau ob∧(b=env.locals∨FG ob)):=by
 obtain⟨⟨oe,h1,h2,h3⟩,oi,h4,h5,h6⟩:=zlM H st
 refine zbq rl.loc λm ol es ep h7 h8 _=>?_
 have h7:s.heap.get? env.locals=some ol:=h7
 intro b hb
 refine⟨hb,?_⟩
 simp only[gl,List.mem_cons,List.not_mem_nil,or_false]at hb
 rcases hb with rfl | rfl | rfl
 ·exact⟨by rw[h7];exact nofun,λob q=>by rw[h7]at q;cases q;exact⟨.inr ⟨es,ep,h8⟩,.inl rfl⟩⟩
 ·exact⟨by rw[h1];exact nofun,λob q=>by rw[h1]at q;cases q;exact⟨h3,.inr h2⟩⟩
 ·exact⟨by rw[h4];exact nofun,λob q=>by rw[h4]at q;cases q;exact⟨h6,.inr h5⟩⟩
theorem zhu {A':Around}{lw:List Addr}{s₀ s:Shared}{o:Nat→Option Addr}{ρ:zc} (hL:env.locals∈lw) (rl:Rel W (gcx k A' env sc.ns (bs lw s₀)) o ρ s) :
  ∀b∈[env.locals],b∈lw∧s.heap.get? b≠none∧(∀ob,s.heap.get? b=some ob→zau ob∧(b=env.locals∨FG ob)):=by
 refine zbq rl.loc λm ol es ep h7 h8 _=>?_
 have h7:s.heap.get? env.locals=some ol:=h7
 intro b hb
 rw[List.mem_singleton.mp hb]
 exact⟨hL,by rw[h7];exact nofun,λob q=>by rw[h7]at q;cases q;exact⟨.inr ⟨es,ep,h8⟩,.inl rfl⟩⟩
theorem zkn {A':Around}{s₀ s:Shared}{o:Nat→Option Addr}{ρ:zc}{i:Nat}{h':Heap}{tk:Nat} (kn:zgb W sC s₀ env e it) (rl:Rel W (gcx k A' env sc.ns (bs (gl env e it) s₀)) o ρ s) (st:ENs x t e it i s.heap)
  (hk:∀b o,b ∉ [e,it]→s.heap.get? b=some o→h'.get? b=some o) (ht:s.toks≤tk):Rel W (gcx k A' env sc.ns (bs (gl env e it) s₀)) o ρ {s with heap:=h',toks:=tk}:=by
 have own:=zfD H kn rl st
 have inl:∀b,b∈[e,it]→b∈gl env e it:=λb hb=>List.mem_cons_of_mem _ hb
 refine rl.nx (wr:=λb=>b∈[e,it]) (wg:=λ_=>False) ⟨λb ob q _ hb=>hk b ob hb q,W.keep rl.step.g λb ob q hs=>hk b ob (λhb=>?_) q,rfl,λ_ _ _ q=>q,rl.gd.2,ht,λb ob hb q=>((own b (inl b hb)).2.2 ob q).1,λb hb q=>(kn b (inl b hb)).1 (W.xsy _ q)⟩
  (λb hb=>zcq (inl b hb)) (λ_ q=>q.elim) (λb hb=>?_) λb hb y kk q=>?_
 ·rcases hs with hs | hs
  ·exact(kn b (inl b hb)).1 hs
  ·exact((own b (inl b hb)).2.2 ob q).1.code hs
 ·simp only[List.mem_cons,List.not_mem_nil,or_false]at hb
  rcases hb with rfl | rfl
  ·exact H.hLe
  ·exact H.hLi
 ·rw[show(gcx _ A' env sc.ns (bs (gl env e it) s₀)).env.cells=[] from H.G.cells]at q;cases q
theorem zhP {s s':Shared}{i:Nat} (hX:∀b∈gl env e it,¬W.X b) (x':Stp W s s') (st:ENs x t e it i s.heap):ENs x t e it i s'.heap:=by
 obtain⟨⟨old,he⟩,ob,ho,r⟩:=st
 exact⟨⟨old,x'.evo _ _ he (hX e (by simp[gl]))⟩,ob,x'.evo _ _ ho (hX it (by simp[gl])),r⟩
theorem ztN {s₀:Shared} (kn:zgb W sC s₀ env e it):∀b∈gl env e it,¬W.X b:=λb hb q=>(kn b hb).1 (W.xsy _ q)
theorem zfh {A':Around}{s₀ s s1 s'':Shared}{o:Nat→Option Addr}{ρ:zc}{i:Nat} (kn:zgb W sC s₀ env e it) (rl:Rel W (gcx k A' env sc.ns (bs (gl env e it) s₀)) o ρ s) (st:ENs x t e it i s.heap) (x1:Stp W s s1)
  (ha:∀b∈gl env e it,∀ob,s1.heap.get? b=some ob→s''.heap.get? b=some ob):zgb W sC s'' env e it∧ENs x t e it i s''.heap:=by
 have rl1:=rl.mono x1
 have st1:=zhP H (ztN H kn) x1 st
 have own:=zfD H kn rl1 st1
 have same:∀b∈gl env e it,∀ob,s''.heap.get? b=some ob→s1.heap.get? b=some ob:=λb hb ob q=>by
  cases q1:s1.heap.get? b with
  | none=>exact absurd q1 (own b hb).2.1
  | some ob1=>rw[ha b hb ob1 q1]at q;cases q;rfl
 refine⟨λb hb=>?_,?_⟩
 ·refine xAA (own b hb) λ_ a2 a3=>?_
  refine xAA (kn b hb) λk1 k2 k3=>?_
  refine⟨k1,λob q=>(a3 ob (same b hb ob q)).1,?_⟩
  rcases k3 with k3 | k3
  ·exact .inl k3
  ·by_cases hbL:b=env.locals
   ·exact .inl hbL
   ·exact .inr ⟨k3.1,λob hq=>((a3 ob (same b hb ob hq)).2).resolve_left hbL⟩
 ·obtain⟨⟨old,he⟩,ob,ho,r⟩:=st1
  exact⟨⟨old,ha e (by simp[gl]) _ he⟩,ob,ha it (by simp[gl]) _ ho,r⟩
theorem zkq {pre r:List D}{d:D}{r':List D} (h:zcQ x 0 false=pre++r) (hr:r=d::r'):(zcQ x 0 false)[(zcQ x 0 false).length - 1 - r'.length]? = some d:=by
 subst hr
 rw[h]
 have:(pre++d::r').length - 1 - r'.length=pre.length:=by simp
 rw[this,List.getElem?_append_right (Nat.le_refl _)]
 simp
theorem znx {fb:List Stmt}{s₀ s:Shared}{o:Nat→Option Addr}{i:Nat}{esc:Bool}{pre:List D} (kn:zgb W sC s₀ env e it) (hpre:zcQ x 0 false=pre++zcQ [] i esc)
  (rl:∀A',Rm k A'→Rel W (gcx k A' env sc.ns (bs (gl env e it) s₀)) o (rho x i esc) s) :
  Seg W.M A.in1 (gR W sC env.locals) (gY W sC env.locals (zcQ x 0 false)) (zcQ [] i esc).length s₀ (.func fb env) (K1 env g .next) [] s:=by
 have hr:Rm k (A.in1.over (.func fb env) []):=zkF H.hA
 have rl0:=rl _ hr
 have fits:∀{A':Around}{b:Shared},Fits (gcx k A' env sc.ns b) sc:=zoE H
 show Seg _ _ _ _ _ _ _ ((execs [g.last] env).wrap Kf (Hf env) id id) [] s
 refine seg_execs_cons (zkC λE=>?_)
 refine zeL H.Z (.val (.var 2)) sc (gcx k (A.in1.over (.func fb env) []) env sc.ns (bs (gl env e it) s₀)) (rho x i esc) g.t3 esc rfl fits H.ok.g7 rfl o s rl0 _ E λs1 x1=>?_
 have rl1:=rl0.mono x1
 have ol:=zhu H (lw:=gl env e it) List.mem_cons_self rl1
 cases esc with
 | false =>
  simp only[zxj,List.length_nil]
  exact seg_execs_nil (zlx (lf:=[env.locals]) ⟨rl1.step,List.mem_cons_self,kn,ol⟩)
 | true =>
  simp only[zxi,List.length_cons,List.length_nil]
  refine seg_execs_cons (zeo H.G H.hco rfl rfl (lf:=[env.locals]) List.mem_cons_self rl1 (zhs _ _ _) (zw H.Z (.tup [.var 1,.lit (.str [92])]) sc _ (rho x i true) g.e3 (.tup [.int (zrq i),.str [92]]) rfl fits H.ok.g10 rfl).1
   (zkq H hpre rfl) kn ol λs2 s'' x2 gd ht ha hrel=>?_)
  have rl2:=hrel _ hr
  refine seg_execs_nil (zlx (lf:=[env.locals]) ⟨rl2.step,List.mem_cons_self,λb hb=>?_,zhu H List.mem_cons_self rl2⟩)
  rw[List.mem_singleton.mp hb]
  exact⟨(kn _ List.mem_cons_self).1,λob q=>((zhu H List.mem_cons_self rl2 _ List.mem_cons_self).2.2 ob q).1,.inl rfl⟩
end
end Mine.Internal
end

noncomputable section
open PySem PySem.Calls PyProof.Rows PySem.SeqAt
namespace Mine.Internal
section
variable {W:Wd}{F:Fns}{k:Nat}{sc:Sc}{env:Env}{g:GTxt}{A:Around}{e it:Addr} (H:GH W F k sc env g A e it) {sC:Shared}{x:List Nat}{t:Tok}
include H
theorem zma {i:Nat}{esc:Bool}{ch:Nat} (hch:x.getD i 0=ch):zal (rho x i esc) [1,3] [.int i,.str [ch]]=some (rho x (i+1) esc):=by
 unfold rho
 simp only[zrx,znR,zqG,zqF,if_true,zaU,List.set]
 congr 1
 have h2:x[i]?.getD 0=ch:=by rw[← hch,List.getD_eq_getElem?_getD]
 simp[zrq,h2]
theorem znw {fb:List Stmt}{p:Pos}:∀(r:List Nat) (i:Nat) (esc:Bool) (s₀ s:Shared) (o:Nat→Option Addr) (pre:List D),x.drop i=r→i≤x.length→zcQ x 0 false=pre++zcQ r i esc→zgb W sC s₀ env e it →
  (∀A',Rm k A'→Rel W (gcx k A' env sc.ns (bs (gl env e it) s₀)) o (rho x i esc) s)→ENs x t e it i s.heap →
  Seg W.M A.in1 (gR W sC env.locals) (gY W sC env.locals (zcQ x 0 false)) (zcQ r i esc).length s₀ (.forLoop g.tgt (.ref e) g.body [] env) (W.M.den (.forLoop g.tgt (.ref e) g.body [] env)) [gFr env g fb p] s:=by
 have hr:Rm k (A.in1.over (.forLoop g.tgt (.ref e) g.body [] env) [gFr env g fb p]):=zpM H.hA
 have fits:∀{A':Around}{b:Shared},Fits (gcx k A' env sc.ns b) sc:=zoE H
 have WU:=zlL (prog:=W.prog) (w:=W.w) (sv x) t e it H.hei
 intro r
 induction r with
 | nil =>
  intro i esc s₀ s o pre hd hi hpre kn rl st
  have hin:i=(sv x).cps.size:=by
   have:=congrArg List.length hd
   simp at this
   show i=x.toArray.size
   simp;lia
  refine zdX λE=>?_
  refine wpAny_with_toks (n:=s.toks) (Nat.le_refl _) ((WU _ hr.1).done s _ _ (hin▸st) λh' tk hk htk=>?_)
  exact seg_leaf (.ok .next) (znx H kn hpre λA' hA'=>zkn H kn (rl A' hA') st hk htk)
 | cons ch r ih =>
  intro i esc s₀ s o pre hd hi hpre kn rl st
  have hlt:i < x.length:=by
   rcases Nat.lt_or_ge i x.length with q | q
   ·exact q
   ·rw[List.drop_eq_nil_of_le q]at hd;cases hd
  have hch:x[i]? = some ch:=by
   have:=congrArg (·[0]?) hd
   simpa using this
  have hchD:x.getD i 0=ch:=by simp[List.getD_eq_getElem?_getD,hch]
  have hdr:x.drop (i+1)=r:=by
   have:=congrArg (·.drop 1) hd
   simpa [Nat.add_comm] using this
  refine zdX λE=>?_
  refine wpAny_with_toks (n:=s.toks) (Nat.le_refl _) ((WU _ hr.1).item i s _ _ (by show i < x.toArray.size;simpa using hlt) st λT vals h' tk hPt hT hMid hk htk=>?_)
  have hsb:∀(j:Nat) (b:Addr),o j=some b→∃vs,s.heap.PlainList b vs:=λj b q=>((rl _ hr).own j b q).2
  refine(WU _ hr.1).go _ _ _ i T _ _ _ hMid λh'' st2 hk2=>?_
  have st1:ENs x t e it (i+1) h'':=st2
  have rl2:=zkn H kn (rl _ hr) st (h':=h'') (tk:=tk) (λb ob hb q=>hk2 b ob hb (hk b ob hb q)) htk
  have hrv:RV h'' W.X (.tup [.int i,.str [ch]]) (.ref T):=by
   obtain⟨t',v,⟨c,u,hc,rfl⟩,rfl⟩:=hPt
   have hcc:c=ch:=by
    have:x[i]? = some c:=by simpa using hc
    rw[hch]at this;exact(Option.some.inj this).symm
   subst hcc
   refine xEA hT λob h1 h2=>?_;clear hT
   exact zgt.mpr ⟨T,[.int i t',.str (sv [c]) u],rfl,⟨ob,hk2 _ _ ((WU _ hr.1).apart i T _ hMid) h1,h2⟩,RVs.cons (zi.mpr ⟨_,rfl⟩) (RVs.one (zN.mpr ⟨_,rfl⟩))⟩
  have TG:=(zhC (fits (A':=A.in1.over (.forLoop g.tgt (.ref e) g.body [] env) [gFr env g fb p]) (b:=bs (gl env e it) s₀)) (t:=g.tgt) (n:=2) (is:=[1,3]) H.ok.g11).1
  refine zks rl2 TG (d:=.tup [.int i,.str [ch]]) rfl (zma H (esc:=esc) hchD) hrv λs3 D3=>?_
  have leftE:∀{A':Around}{s0 sa sb:Shared}{oa:Nat→Option Addr}{ρa:zc}{j:Nat},zgb W sC s0 env e it→Rel W (gcx k A' env sc.ns (bs (gl env e it) s0)) oa ρa sa→zga W (gcx k A' env sc.ns (bs (gl env e it) s0)) oa sa sb→ENs x t e it j sa.heap→ENs x t e it j sb.heap:=by
   intro A' s0 sa sb oa ρa j kn0 ra la st0
   obtain⟨⟨old,he⟩,ob,ho,hc,hd⟩:=id st0
   have nc:∀b y kk,(gcx k A' env sc.ns (bs (gl env e it) s0)).env.cells.lookup y=some kk→b≠kk:=λb y kk q=>by
    rw[show(gcx _ A' env sc.ns (bs (gl env e it) s0)).env.cells=[] from H.G.cells]at q;cases q
   refine⟨⟨old,la e _ he H.hLe (nc e) (λj q=>?_) (ztN H kn0 e (by simp[gl]))⟩,ob,la it _ ho H.hLi (nc it) (λj q=>?_) (ztN H kn0 it (by simp[gl])),hc,hd⟩
   ·refine zmn (ra.own j e q) λ_ vs n q2=>?_
    rw[he]at q2;exact absurd (Value.type.inj (congrArg Obj.cls (Option.some.inj q2))) (by decide)
   ·refine zmn (ra.own j it q) λ_ vs n q2=>?_
    rw[ho]at q2;cases q2;cases hd
  obtain⟨o3,r3,_,l3,_⟩:=D3
  have st3:ENs x t e it (i+1) s3.heap:=leftE kn rl2 l3 st1
  show Seg _ _ _ _ _ _ _ ((execs g.body env).wrap _ _ id id) _ s3
  refine seg_execs_cons (zkC λE=>?_)
  refine zeL H.Z (.val (.var 2)) sc (gcx k _ env sc.ns (bs (gl env e it) s₀)) (rho x (i+1) esc) g.t1 esc rfl fits H.ok.g5 rfl o3 s3 r3 _ E λs4 x4=>?_
  have r4:=r3.mono x4
  have st4:=zhP H (ztN H kn) x4 st3
  have e3:zbd (rho x (i+1) esc) 3=some (.str [ch]):=by
   have h2:x[i]?.getD 0=ch:=by rw[← hchD,List.getD_eq_getElem?_getD]
   simp[zqx,zoB,rho,h2]
  have e1':zbd (rho x (i+1) esc) 1=some (.int i):=by simp[zqx,zoB,rho,zrq]
  cases esc with
  | true =>
   have eL:zcQ (ch::r) i true = .tup [.int i,.str [92,ch]]::zcQ r (i+1) false:=if_pos rfl
   rw[eL]at hpre ⊢
   simp only[if_true,List.length_cons]
   refine seg_execs_cons (zeo H.G H.hco rfl rfl List.mem_cons_self r4 (zhs _ _ _) (zw H.Z (.tup [.var 1,.bin .Add (.lit (.str [92])) (.var 3)]) sc _ (rho x (i+1) true) g.e1 (.tup [.int i,.str [92,ch]]) rfl fits H.ok.g8 (by simp only[zaK,zas,zbG,zki,zaJ,zL,e1',e3];rfl)).1
    (zkq H hpre rfl) kn (zfD H kn r4 st4) λs5 s'' x5 gd ht ha hrel=>?_)
   refine xA (zfh H kn r4 st4 x5 ha) λkn' st'=>?_
   refine zdD λE=>wpAny_mono (zlj H.Z (N:=0) (.set 2 (.lit (.bool false))) sc (gcx k _ env sc.ns (bs (gl env e it) s'')) (rho x (i+1) true) g.S3 .next (rho x (i+1) false) rfl fits H.ok.g3 rfl _ s'' (hrel _ hr) E) (λf s6 D6=>?_) λ_ _ q=>q
   obtain⟨o6,r6,hf6,l6,_⟩:=D6
   simp only[zeM]at hf6
   refine⟨hf6,seg_execs_nil (seg_execs_nil ?_)⟩
   exact seg_again rfl (ih (i+1) false s'' s6 o6 (pre++[.tup [.int i,.str [92,ch]]]) hdr hlt (by rw[hpre];simp) kn' (λA' hA'=>r6.setA hA') (leftE kn' (hrel _ hr) l6 st'))
  | false =>
   rw[if_neg Bool.false_ne_true]
   have ht2:tr F (rho x (i+1) false) (.val (.cmp .Eq (.var 3) (.lit (.str [92]))))=some (decide (ch=92)):=by
    simp only[zkf,zaK,zas,zhY,e3,Option.bind_some,zlT,zqV,Option.map_some,zxH]
    congr 1
    by_cases h:ch=92<;>simp[h]
   refine seg_execs_cons (zkC λE=>?_)
   refine zeL H.Z (.val (.cmp .Eq (.var 3) (.lit (.str [92])))) sc (gcx k _ env sc.ns (bs (gl env e it) s₀)) (rho x (i+1) false) g.t2 _ rfl fits H.ok.g6 ht2 o3 s4 r4 _ E λs5 x5=>?_
   have r5:=r4.mono x5
   have st5:=zhP H (ztN H kn) x5 st4
   by_cases h92:ch=92
   ·have eL:zcQ (ch::r) i false=zcQ r (i+1) true:=(if_neg Bool.false_ne_true).trans (if_pos h92)
    rw[eL]at hpre ⊢
    simp only[h92,decide_true,if_true]
    refine zdD λE=>wpAny_mono (zlj H.Z (N:=0) (.set 2 (.lit (.bool true))) sc (gcx k _ env sc.ns (bs (gl env e it) s₀)) (rho x (i+1) false) g.S4 .next (rho x (i+1) true) rfl fits H.ok.g4 rfl _ s5 r5 E) (λf s6 D6=>?_) λ_ _ q=>q
    obtain⟨o6,r6,hf6,l6,_⟩:=D6
    simp only[zeM]at hf6
    refine⟨hf6,seg_execs_nil (seg_execs_nil (seg_execs_nil ?_))⟩
    exact seg_again rfl (ih (i+1) true s₀ s6 o6 pre hdr hlt hpre kn (λA' hA'=>r6.setA hA') (leftE kn r5 l6 st5))
   ·have eL:zcQ (ch::r) i false = .tup [.int i,.str [ch]]::zcQ r (i+1) false:=(if_neg Bool.false_ne_true).trans (if_neg h92)
    rw[eL]at hpre ⊢
    simp only[h92,decide_false,Bool.false_eq_true,if_false,List.length_cons]
    refine seg_execs_cons (zeo H.G H.hco rfl rfl List.mem_cons_self r5 (zhs _ _ _) (zw H.Z (.tup [.var 1,.var 3]) sc _ (rho x (i+1) false) g.e2 (.tup [.int i,.str [ch]]) rfl fits H.ok.g9 (by simp only[zas,zki,zaJ,zL,e1',e3];rfl)).1
     (zkq H hpre rfl) kn (zfD H kn r5 st5) λs6 s'' x6 gd ht ha hrel=>?_)
    refine xA (zfh H kn r5 st5 x6 ha) λkn' st'=>?_
    refine seg_execs_nil (seg_execs_nil (seg_execs_nil ?_))
    exact seg_again rfl (ih (i+1) false s'' s'' _ (pre++[.tup [.int i,.str [ch]]]) hdr hlt (by rw[hpre];simp) kn' hrel st')
end
end Mine.Internal
end

noncomputable section
open PySem PySem.Calls PyProof.Rows PySem.SeqAt
namespace Mine.Internal
theorem Rel.base_eq {W:Wd}{k:Nat}{A:Around}{env:Env}{ns:List Str}{l l':List Addr}{s₀ s:Shared}{o:Nat→Option Addr}{ρ:zc} (rl:Rel W (gcx k A env ns (bs l s₀)) o ρ s) (h:∀b,(bs l' s₀).heap.get? b=(bs l s₀).heap.get? b):Rel W (gcx k A env ns (bs l' s₀)) o ρ s:=by
 obtain⟨ok,h1,h2,h3,h4,h5,h6⟩:=rl
 refine⟨{glob:=ok.glob,blt:=ok.blt,kind:=ok.kind,nd:=ok.nd,dbg:=ok.dbg,room:=ok.room,good:=W.keep ok.good λb o e _=>(h b).trans e,toks:=ok.toks,lnew:=(h _).trans ok.lnew,cnew:=λi x k a b e=>(h _).trans (ok.cnew i x k a b e),kinds:=ok.kinds,cinj:=ok.cinj},
  ⟨λb o e n=>h1.evo b o ((h b).symm.trans e) n,h1.g,h1.os,h1.gens,h1.bare,h1.toks⟩,h2,h3,h4,λi a e=>?_,h6⟩
 refine xA (h5 i a e) λq1 q2=>?_
 exact⟨(h a).trans q1,q2⟩
section
variable {W:Wd}{F:Fns}{k:Nat} (Z:Snd W F k) {sc:Sc}{env:Env}{g:GTxt} (G:GEnv env sc.ns) (hnm:env.scope.names=sc.names) (hno:sc.no=sc.ns.length) (hn4:sc.ns.length=4) (hg:g.ok sc=true) (hco:env.scope.isCoroutine=false)
 {A:Around} (hA:Rm (k+2) A) {sC:Shared}{x:List Nat}{t:Tok}
include Z G hnm hno hn4 hg hco hA
theorem zny {nEn:Str}{pa pb:Pos}{ea:Expr}{m:Str→Option Value}{s:Shared} (hit:g.iter = .Call (.Name nEn pa) [ea] [] pb) (hea:mE sc (.var 0) ea=true) (hst:ze [ea]=true) (hk:sc.glob nEn=true) (fa:FnAt W nEn (.type "enumerate"))
  (gd:Gd W s) (ht:W.tk0≤s.toks) (hn:s.heap.Ns env.locals m) (hm:∀n0,sc.ns[0]? = some n0→m n0=some (.str (sv x) t)) (hLs:¬W.Sy env.locals) (hal:∀b,s.heap.get? b=none→sC.heap.get? b=none) :
  Seg W.M A.in1 (gR W sC env.locals) (gY W sC env.locals (zcQ x 0 false)) (zcQ x 0 false).length s (.func g.all env) (W.M.den (.func g.all env)) [] s:=by
 have hk0:=GTxt.parts hg
 have hr:Rm k (A.in1.over (.func g.all env) []):=zkF hA
 have fits:∀{A':Around}{b:Shared},Fits (gcx k A' env sc.ns b) sc:=⟨G.kind,hnm,rfl,hno.symm⟩
 have hown:Own W [env.locals] s:=λb hb=>by
  rw[List.mem_singleton.mp hb]
  refine⟨hLs,λob q=>?_⟩
  refine zcb hn λol es ep h7 h8 _=>?_;clear hn
  rw[h7]at q;cases q;exact .inr ⟨es,ep,h8⟩
 have rl:Rel W (gcx k (A.in1.over (.func g.all env) []) env sc.ns (bs [env.locals] s)) (λ_=>none) [some (.fz (.str x)),none,none,none] s:=by
  refine zos G gd ht hn (List.mem_cons_self) hown hr λi y b hy hb=>?_
  rcases i with _ | _ | _ | _ | i
  ·cases hb;exact⟨_,_,rfl,rfl,hm y hy,zN.mpr ⟨t,rfl⟩⟩
  ·cases hb
  ·cases hb
  ·cases hb
  ·simp at hb
 refine seg_func ?_
 show Seg _ _ _ _ _ _ _ ((execs g.all env).wrap Kf (Hf env) id id) [] s
 refine zdD λE=>wpAny_mono (zlj Z (N:=0) (.set 1 (.lit (.int 0))) sc _ _ g.S1 .next [some (.fz (.str x)),some (.fz (.int 0)),none,none] rfl fits hk0.g1 rfl _ s rl E) (λf s1 D1=>?_) λ_ _ q=>q
 obtain⟨o1,r1,hf1,l1,_⟩:=D1
 simp only[zeM]at hf1
 refine⟨hf1,zdD λE=>wpAny_mono (zlj Z (N:=0) (.set 2 (.lit (.bool false))) sc _ _ g.S2 .next (rho x 0 false) rfl fits hk0.g2 rfl _ s1 r1 E) (λf s2 D2=>?_) λ_ _ q=>q⟩
 obtain⟨o2,r2,hf2,l2,_⟩:=D2
 simp only[zeM]at hf2
 refine⟨hf2,seg_execs_cons (zpF (zed hk0.g12 _) λE=>?_)⟩
 rw[hit]
 have hEa:=(zw Z (.var 0) sc (gcx k (A.in1.over (.func g.all env) []) env sc.ns (bs [env.locals] s)) (rho x 0 false) ea (.str x) rfl fits hea rfl).1
 refine wpAny_Call_NameR (zaP fa ((fits (A':=A.in1.over (.func g.all env) []) (b:=bs [env.locals] s)).glob hk) r2 (zS (fv:=.type "enumerate") trivial hst (zbx hEa zbg λenv=>(zv hst env).1) r2 λvs s3 x3 rv3=>?_))
 refine zch rv3 λv q3=>?_
 refine zV q3 λt3=>?_
 refine call_enumerate_str λh' he hstr hsz hkeep=>wpAny_pyIter_enum he λp=>?_
 have r3:=r2.mono x3
 have x4:Stp W s3 {s3 with heap:=h'}:=r3.gd.keeps (tk:=s3.toks) hkeep
 have r4:=r3.mono x4
 have n3:∀b,s3.heap.objs.size≤b→s3.heap.get? b=none:=λb hb=>by
  cases q:s3.heap.get? b with
  | none=>rfl
  | some ob=>exact absurd (Heap.lt_size q) (Nat.not_lt.mpr hb)
 have nL:∀b,s3.heap.objs.size≤b→b≠env.locals:=λb hb q=>by
  refine zaI r3.loc λm3 ol es ep h7 _=>?_
  have h7:s3.heap.get? env.locals=some ol:=h7
  rw[← q,n3 b hb]at h7;cases h7
 have n0:∀b,s3.heap.objs.size≤b→s.heap.get? b=none:=λb hb=>by
  have:=r3.step.alive (W:=W) (a:=b) (zlV gd.1 hown)
  by_cases hbL:b=env.locals
  ·exact absurd hbL (nL b hb)
  ·refine Decidable.byContradiction λq=>this ?_ (n3 b hb)
   rw[zbl (by simpa using hbL)];exact q
 have hle1:=Nat.le_succ s3.heap.objs.size
 have kn:zgb W sC s env (s3.heap.objs.size+1) s3.heap.objs.size:=λb hb=>by
  simp only[gl,List.mem_cons,List.not_mem_nil,or_false]at hb
  rcases hb with rfl | hb
  ·exact⟨hLs,(hown _ List.mem_cons_self).2,.inl rfl⟩
  ·have hb':s3.heap.objs.size≤b:=by rcases hb with rfl | rfl;exact hle1;exact Nat.le_refl _
   have z:=n0 b hb'
   exact⟨λq=>W.sy gd.1 q z,(λob q=>by rw[z]at q;cases q),.inr ⟨hal b z,λob q=>by rw[z]at q;cases q⟩⟩
 have hbase:∀b,(bs (gl env (s3.heap.objs.size+1) s3.heap.objs.size) s).heap.get? b=(bs [env.locals] s).heap.get? b:=λb=>by
  show(zfN _ s.heap).get? b=(zfN _ s.heap).get? b
  rw[zcN,zcN]
  by_cases h1:b=env.locals
  ·simp[h1]
  ·by_cases h2:s3.heap.objs.size≤b
   ·rw[n0 b h2];split<;>split<;>rfl
   ·have h3:b≠s3.heap.objs.size+1:=λq=>h2 (q▸hle1)
    have h4:b≠s3.heap.objs.size:=λq=>h2 (q▸Nat.le_refl _)
    simp[h1,h3,h4]
 exact znw ⟨Z,G,hnm,hno,hn4,hk0,hco,hA,Nat.succ_ne_self _,nL _ hle1,nL _ (Nat.le_refl _)⟩ x 0 false s _ o2 [] rfl (Nat.zero_le _) rfl kn (λA' hA'=>(r4.setA hA').base_eq hbase) ⟨⟨.none,by exact_mod_cast he⟩,hstr⟩
end
end Mine.Internal
end

noncomputable section
open PySem PySem.Calls PyProof.Rows PySem.SeqAt
namespace Mine.Internal
inductive GSt (W:Wd) (A:Around) (sC:Shared) (L:Addr) (total:List D) (a:Addr) (gi:Nat):(Addr→Prop)→(Addr→Prop)→List D→Shared→Prop
 | mk (lf:List Addr) {ds:List D}{s:Shared} (hL:L∈lf) (hg:s.heap.IsGen a gi) (hal:∀b∈lf,s.heap.get? b≠none) (hn:a ∉ lf) (pre:List D) (hp:total=pre++ds) (gs:GenState) (hgs:s.gens[gi]? = some gs)
  (hgo:∀s'',Gd W s''→W.tk0≤s''.toks→(∀b,s''.heap.get? b=none→sC.heap.get? b=none)→(∀b∈lf,∀o,s.heap.get? b=some o→s''.heap.get? b=some o)→gs.Goes W.M A.in1 (gR W sC L) (gY W sC L total) ds.length (.send .none) s'') :
  GSt W A sC L total a gi (λb=>b=a∨b∈lf) (λb=>b∈lf) ds s
theorem zcl {h:Heap}{a:Addr}{g:Nat} (x:h.IsGen a g):∃o,h.get? a=some o∧o.cls = .type "generator"∧∃vs,o.data = .fields vs:=by
 refine zbr x λo nm qn ho hc hd _=>?_;clear x
 exact⟨o,ho,hc,_,hd⟩
theorem zll {prog:Program}{w:World}{A:Around}{a:Addr}{gi:Nat}{target:Expr}{v:Value}{s:Shared}{Q:Unit→Shared→Prop}{E:Value→Shared→Prop} (hg:s.heap.IsGen a gi) (q:Q () s):wpAny (model prog w) A (letOwnedTupleGo target (.ref a) v) Q E s:=by
 refine zrH (zcl hg) λo ho hc vs hd=>?_
 have key:∀b:Addr,wpAny (model prog w) A (do let o ← load a;match o.cls,o.data with
  | .type n,.fields vs =>
   if ["enumerate","zip","dict_itemiterator","dict_reverseitemiterator","odict_iterator","itertools.zip_longest","itertools.pairwise"].contains n && vs[0]? == some (rawInt b) then
    rule "for.unpacks-the-owned-tuple"
    updateField a 0 .none
  | _,_=>pure ()) Q E s:=λb=>by
  refine wpAny_bind (wpAny_load ho ?_)
  rw[hc,hd]
  have:(["enumerate","zip","dict_itemiterator","dict_reverseitemiterator","odict_iterator","itertools.zip_longest","itertools.pairwise"].contains "generator")=false:=by decide
  simp only[this,Bool.false_and,Bool.false_eq_true,if_false]
  exact wpAny_pure q
 cases target<;>first
  | exact wpAny_pure q
  | (cases v<;>first | exact wpAny_pure q | exact key _)
theorem zdN {s:Shared}{gi:Nat}{gs:GenState} (h:AllBare s.gens) (hb:gs.bare=true):AllBare (s.setGen gi gs).gens:=λy hy=>by
 obtain⟨i,hi,rfl⟩:=Array.mem_iff_getElem.mp hy
 have hi':i < s.gens.size:=by simpa [Shared.setGen] using hi
 have e:(s.setGen gi gs).gens[i]=if gi=i then gs else s.gens[i]:=by
  show(s.gens.setIfInBounds gi gs)[i]'(by simpa [Shared.setGen] using hi)=_
  rw[Array.getElem_setIfInBounds]
 rw[e]
 split
 ·exact hb
 ·exact h _ (Array.getElem_mem _)
theorem zaV {s:Shared}{gi i:Nat}{gs:GenState} (h:i≠gi):(s.setGen gi gs).gens[i]? = s.gens[i]?:=by simp[Shared.setGen,Ne.symm h]
section
variable {W:Wd}{A:Around}{sC:Shared}{L:Addr}{total:List D}{a:Addr}{gi:Nat}
theorem ztv {s₀ s₁:Shared}{lw lf:List Addr} (hg:s₀.heap.IsGen a gi) (hL:¬L=a) (ef:Eff W sC L lw lf s₀ s₁):a ∉ lw:=λq=>by
 refine zrH (zcl hg) λo ho hc vs hd=>?_
 rcases(ef.ow a q).2.2 with h | h
 ·exact hL h.symm
 ·exact(h.2 o ho).2 hc
theorem zqz (hA:A.handled=none) (hroom:A.depth < recursionLimit) (haX:¬W.X a) :
  ItrD W A (.ref a) sC (λi=>i=gi) true (GSt W A sC L total a gi) where
 sub:=by rintro fp wr ds s ⟨lf,_⟩ b hb;exact .inr hb
 alive:=by
  rintro fp wr ds s b ⟨lf,_,hg,hal,_⟩ (rfl | hb)
  ·refine xEA (zcl hg) λo ho _=>?_;rw[ho];exact nofun
  ·exact hal b hb
 frame:=by
  rintro fp wr ds s s' ⟨lf,hL,hg,hal,hn,pre,hp,gs,hgs,hgo⟩ hk hgk
  refine⟨lf,hL,?_,λb hb=>?_,hn,pre,hp,gs,hgk gi gs rfl hgs,λs'' g ht hq ha=>hgo s'' g ht hq λb hb o e=>ha b hb o (hk b o (.inr hb) e)⟩
  ·refine zaA hg λo nm qn ho r=>?_;clear hg;exact⟨o,nm,qn,hk a o (.inl rfl) ho,r⟩
  ·cases e:s.heap.get? b with
   | none=>exact absurd e (hal b hb)
   | some o=>rw[hk b o (.inr hb) e];exact nofun
 item:=by
  rintro fp wr d ds s Q E ⟨lf,hL,hg,hal,hn,pre,hp,gs,hgs,hgo⟩ g ht hA' k
  have hrun:Gd W (s.setGen gi .running):=⟨g.1,zdN g.2 rfl⟩
  refine zin (P:=λn s₀ s₁=>n=0∧∃lw lf,Eff W sC L lw lf s₀ s₁) hA (W.nolimit g.1) hroom hg hgs (hgo _ hrun ht (λb e=>hA'.none e) λb _ o e=>e) (λv s₁ gs' hb hY=>?_) (λs₁ hp h' hk=>?_)
  ·obtain⟨lw,lf',⟨d',hd',hr⟩,ef,hkap⟩:=hY
   have hdd:d'=d:=by
    have:total[total.length - 1 - ((d::ds).length - 1)]? = some d:=by
     rw[hp]
     have:(pre++d::ds).length - 1 - ((d::ds).length - 1)=pre.length:=by simp
     rw[this,List.getElem?_append_right (Nat.le_refl _)];simp
    rw[this]at hd';exact(Option.some.inj hd').symm
   subst hdd
   have naw:=ztv (s₀:=s.setGen gi .running) hg (λq=>hn (q▸hL)) ef
   have st1:=ef.stp
   have ga:∀o,s.heap.get? a=some o→s₁.heap.get? a=some o:=λo e=>st1.evo a o (by rw[zbl naw];exact e) haX
   have gr:s₁.gens[gi]? = some .running:=st1.gens gi .running (setGen_self hgs)
   have nx:Nx W (λb=>b∈lw) (λi=>i=gi) s (s₁.setGen gi gs') :=
    ⟨λb o e hX hw=>st1.evo b o (by rw[zbl hw];exact e) hX,st1.g,st1.os,λi g' hi e=>by rw[zaV hi];exact st1.gens i g' (by rw[show(bs lw (s.setGen gi .running)).gens=(s.setGen gi .running).gens from rfl,zaV hi];exact e),zdN st1.bare hb,st1.toks,
     λb o hb e=>(ef.ow b hb).2.1 o e,λb hb q=>(ef.ow b hb).1 (W.xsy _ q)⟩
   refine k v _ _ _ _ ⟨lf',ef.mem,?_,λb hb=>(ef.of_ b hb).2.1,λq=>naw (ef.of_ a q).1,pre++[d'],by rw[hp];simp,gs',setGen_self gr,λs'' g2 ht2 _ ha2=>hkap s'' g2 ht2 ha2⟩ (λb hb=>?_) (λb hb=>?_) (λb hb=>?_) hr nx
   ·refine zaA hg λo nm qn ho r=>?_;clear hg;exact⟨o,nm,qn,ga o ho,r⟩
   ·rcases hb with rfl | hb
    ·exact .inl (.inl rfl)
    ·rcases(ef.ow b (ef.of_ b hb).1).2.2 with h | h
     ·exact .inl (.inr (h▸hL))
     ·exact .inr h.f
   ·rcases(ef.ow b (ef.of_ b hb).1).2.2 with h | h
    ·exact .inl (h▸hL)
    ·exact .inr h.f
   ·rcases(ef.ow b hb).2.2 with h | h
    ·exact .inl (h▸hL)
    ·exact .inr h.f
  ·exact absurd hp.1 (Nat.succ_ne_zero _)
 done:=by
  rintro fp wr s Q E ⟨lf,hL,hg,hal,hn,pre,hp,gs,hgs,hgo⟩ g ht hA' k
  have hrun:Gd W (s.setGen gi .running):=⟨g.1,zdN g.2 rfl⟩
  refine wpAny_with_toks (n:=s.toks) (Nat.le_refl _) (zin (P:=λn s₀ s₁=>n=0∧∃lw lf,Eff W sC L lw lf s₀ s₁) hA (W.nolimit g.1) hroom hg hgs (hgo _ hrun ht (λb e=>hA'.none e) λb _ o e=>e) (λv s₁ gs' hb hY=>?_) (λs₁ hp h' hk htk=>?_))
  ·refine zbb hY λlw lf' _ ef hkap=>?_;clear hY
   exact(hkap s₁ ef.stp.gd (Nat.le_trans ht ef.stp.toks) λb _ o e=>e).elim
  ·refine zmn hp λ_ lw lf' ef=>?_;clear hp
   have st1:=ef.stp
   refine k _ (λb=>b∈lw) (λb hb=>?_) ⟨λb o e hX hw=>hk b o (st1.evo b o (by rw[zbl hw];exact e) hX),W.keepAll st1.g hk,st1.os,λi g' hi e=>?_,zdN st1.bare rfl,htk,λb o hb e=>(ef.ow b hb).2.1 o e,λb hb q=>(ef.ow b hb).1 (W.xsy _ q)⟩
   ·rcases(ef.ow b hb).2.2 with h | h
    ·exact .inl (h▸hL)
    ·exact .inr h.f
   ·show(s₁.setGen gi .finished).gens[i]? = _
    rw[zaV hi]
    exact st1.gens i g' (by rw[show(bs lw (s.setGen gi .running)).gens=(s.setGen gi .running).gens from rfl,zaV hi];exact e)
 self:=by rintro fp wr ds s Q E ⟨lf,hL,hg,_⟩ q;exact wpAny_pyIter_gen hg q
 letgo:=by
  rintro fp wr ds s target v Q E _ ⟨lf,hL,hg,_⟩ q
  exact zll hg q
end
end Mine.Internal
end

noncomputable section
open PySem PySem.Calls PyProof.Rows PySem.SeqAt
namespace Mine.Internal
structure GenAtD (W:Wd) (x:Str) (a:Addr) (fd:FuncData) (g:GTxt) (ns:List Str):Prop where
 at_:FnAt W x (.ref a)
 obj:∃o:Obj,o.data = .func fd∧∀h,W.G h→h.get? a=some o
 body:fd.body = .stmts g.all
 clo:fd.closure=[]
 glob:fd.globals=mainGlobals
 blt:fd.builtins=builtinsNs
 code:∀h,W.G h→h.CodeRec fd.code fd.qualname
 bind:∀v:Value,bindArgs fd ⟨[v],[]⟩=pure ((ns.take 1).zip [v])
 co:fd.scope.isCoroutine=false
 gen:fd.scope.isGenerator=true
 kind:fd.scope.kind = .function
 len:ns.length=4
 nd:ns.Nodup
 dbg:∀x∈ns,(x == ("__debug__" : Str))=false
 loc:∀x∈ns,fd.scope.names.lookup x=some .local
 nc:fd.scope.names.all (λp=>!(p.2 == .cell))=true
theorem zcS:∀(names:List (Str×NameKind)) (n:Nat) (acc:List (Str×Addr)),names.all (λp=>!(p.2 == .cell))=true→cellsFrom n names acc=acc
 | [],_,_,_=>rfl
 | (x,kd)::r,n,acc,h=>by
  simp only[List.all_cons,Bool.and_eq_true,Bool.not_eq_true']at h
  unfold cellsFrom
  rw[if_neg (by rw[h.1];decide)]
  exact zcS r n acc h.2
theorem zqO {W:Wd}{F:Fns}{k:Nat} (Z:Snd W F k) {nm:Str}{a:Addr}{fd:FuncData}{g:GTxt}{ns:List Str} (D0:GenAtD W nm a fd g ns) (hg:g.ok {names:=fd.scope.names,ns:=ns,no:=ns.length}=true)
  {nEn:Str}{pa pb:Pos}{ea:Expr} (hit:g.iter = .Call (.Name nEn pa) [ea] [] pb) (hea:mE {names:=fd.scope.names,ns:=ns,no:=ns.length} (.var 0) ea=true) (hst:ze [ea]=true) (hke:fd.scope.names.lookup nEn=some .globalImplicit) (fa:FnAt W nEn (.type "enumerate"))
  {own:Bool}{c:Cx}{ρ:zc}{p pos:Pos}{es:List Expr}{x:List Nat} (hck:c.k=k+2) (hk:c.env.kindOf nm=some .globalImplicit) (hn:ze es=true) (h:EvL W .al c ρ es [.str x]) :
  EvS W own c ρ (.Call (.Name nm p) es [] pos) true (zcQ x 0 false):=λo s rl Q E kk=>by
 refine xEA D0.obj λob hob hat=>?_
 refine wpAny_Call_NameR (zaP D0.at_ hk rl (zS (fv:=.ref a) ⟨ob,fd,hob,hat⟩ hn h rl λvs s1 x1 r1=>?_))
 refine zch r1 λv q1=>?_
 refine zV q1 λt=>?_
 have rl1:=rl.mono x1
 have hr:Rm (k+2) c.A:=hck▸rl.ok.room
 have hroom:c.A.depth < recursionLimit:=Nat.lt_of_le_of_lt (Nat.le_add_right _ _) (show c.A.depth+(k+2) < 1000 from hr.2.1)
 refine wpAny_call (codeAny_call_generator hroom (hat _ x1.g) hob D0.co D0.gen D0.body (D0.code _ x1.g) ?_)
 rw[D0.bind,D0.clo]
 have hb:∀q∈(ns.take 1).zip [Value.str (sv x) t],q.1∈ns:=λq hq=>List.mem_of_mem_take (List.of_mem_zip hq).1
 refine wpAny_pure (wpAny_with_toks (n:=s1.toks) (Nat.le_refl _) (wpAny_newFunctionEnv_cells D0.kind (λq hq=>.inl (D0.loc _ (hb q hq))) λenv he s' X htk=>?_))
 have eL:env.locals=s1.heap.objs.size:=by rw[he];rfl
 refine xEE X.toInCall.same λh1 tk1 e1=>?_
 have keep:=X.toInCall.keep
 have newer:∀b,s1.heap.objs.size≤b→s1.heap.get? b=none:=λb hb=>by
  cases e:s1.heap.get? b with
  | none=>rfl
  | some ob=>exact absurd (Heap.lt_size e) (Nat.not_lt.mpr hb)
 have news:∀b,s1.heap.objs.size≤b→s.heap.get? b=none:=λb hb=>Decidable.byContradiction λq=>x1.alive rl.step.g q (newer b hb)
 refine⟨(W.nolimit x1.g).keeps keep,?_⟩
 have hgens:s'.gens=s1.gens:=by rw[e1]
 have hos:s'.os=s1.os:=by rw[e1]
 have hsz:env.locals < s'.heap.objs.size:=X.toInCall.ns.lt
 generalize h4:({s' with gens:=s'.gens.push (.fresh (.func g.all env)),toks:=s'.toks+1+1,heap:=s'.heap.push {cls:=.type "generator",data:=.fields #[.int s'.gens.size 0,.str fd.name s'.toks,.str fd.qualname (s'.toks+1)]}}:Shared)=s4
 have k4:∀b o,s'.heap.get? b=some o→s4.heap.get? b=some o:=λb o e=>by rw[← h4];exact Heap.get?_push_of_some _ e
 have hgen:s4.heap.IsGen s'.heap.objs.size s1.gens.size:=⟨_,_,_,by rw[← h4];exact Heap.get?_push_size _ rfl,rfl,by rw[hgens],rfl⟩
 have g4:s4.gens=s1.gens.push (.fresh (.func g.all env)):=by rw[← h4,← hgens]
 have x4:Stp W s1 s4:=by
  refine⟨λb o e _=>k4 b o (keep b o e),W.keepAll x1.g λb o e=>k4 b o (keep b o e),by rw[← h4];exact hos,λi y e=>?_,?_,?_⟩
  ·rw[g4,Array.getElem?_push]
   have:i < s1.gens.size:=by
    rcases Nat.lt_or_ge i s1.gens.size with q | q
    ·exact q
    ·rw[Array.getElem?_eq_none q]at e;cases e
   rw[if_neg (Nat.ne_of_lt this)];exact e
  ·rw[g4];exact x1.bare.push rfl
  ·rw[← h4];show s1.toks≤s'.toks+1+1;exact Nat.le_trans htk (Nat.le_of_lt (Nat.le_succ _))
 refine wpAny_pyIter_gen hgen (kk _ _ ⟨⟨_,_,_,_,zqz (sC:=s) (L:=env.locals) (total:=zcQ x 0 false) hr.1 hroom ?haX,⟨[env.locals],List.mem_cons_self,hgen,?al,?nl,[],rfl,.fresh (.func g.all env),?gs,?go⟩,?c1,?c2,?c3⟩,x1.trans x4⟩)
 case haX=>exact λq=>W.sy x1.g (W.xsy _ q) (newer _ (Nat.le_of_lt (by rw[← eL];exact hsz)))
 case al=>intro b hb;rw[List.mem_singleton.mp hb];refine zaA X.toInCall.ns λol _ _ ho _=>?_;rw[k4 _ _ ho];exact nofun
 case nl=>intro q;exact Nat.lt_irrefl _ ((List.mem_singleton.mp q)▸hsz)
 case gs=>rw[g4];simp
 case c1=>intro b hb;rw[List.mem_singleton.mp hb,eL];exact news _ (Nat.le_refl _)
 case c2 =>
  rintro i rfl
  cases e:s.gens[s1.gens.size]? with
  | none=>rfl
  | some y=>have:=x1.gens _ _ e;simp at this
 case c3 =>
  rintro b (rfl | hb)
  ·refine zeR (zbn rl1 (newer _ (Nat.le_of_lt (by rw[← eL];exact hsz)))) λa1 a2 a3 a4=>?_
   exact⟨a1,a2,a3,λ_=>a4⟩
  ·rw[List.mem_singleton.mp hb,eL]
   refine zeR (zbn rl1 (newer _ (Nat.le_refl _))) λa1 a2 a3 a4=>?_
   exact⟨a1,a2,a3,λ_=>a4⟩
 case go =>
  intro s'' gd ht hal ha
  have G:GEnv env ns:=by
   subst he
   exact⟨D0.glob,D0.blt,D0.kind,zcS _ _ _ D0.nc,D0.nd,D0.dbg,D0.loc⟩
  have hns:s''.heap.Ns env.locals (bindL env.kindOf ((ns.take 1).zip [.str (sv x) t]) λ_=>none):=by
   refine zaA X.toInCall.ns λol es' ep ho r=>?_
   exact⟨ol,es',ep,ha _ List.mem_cons_self _ (k4 _ _ ho),r⟩
  have hsc:env.scope=fd.scope:=by subst he;rfl
  refine⟨rfl,zny (sc:={names:=fd.scope.names,ns:=ns,no:=ns.length}) Z G (by rw[hsc]) rfl D0.len hg (by rw[hsc];exact D0.co) hr (sC:=s) (t:=t) hit hea hst (by unfold Sc.glob Sc.kind;rw[hke];rfl) fa gd ht hns (λn0 h0=>?_) (λq=>W.sy x1.g q (by rw[eL];exact newer _ (Nat.le_refl _))) hal⟩
  have hz:(ns.take 1).zip [Value.str (sv x) t]=[(n0,.str (sv x) t)]:=by
   cases hnn:ns with
   | nil=>simp[hnn]at h0
   | cons y r=>simp[hnn]at h0;subst h0;rfl
  rw[hz]
  exact zfX (by subst he;exact D0.loc _ (List.mem_of_getElem? h0)) (by simp) List.mem_cons_self
end Mine.Internal
end

noncomputable section
open PySem PySem.Calls PyProof.Rows PySem.SeqAt
namespace Mine.Internal
theorem zdv (env:Env) (b:List Stmt):∀a:List Stmt,execs (a++b) env=(do let f ← execs a env;match f with | .next=>execs b env | f=>pure f)
 | []=>by
  show execs b env=_
  rw[show execs [] env=pure Flow.next from rfl,pure_bind]
 | st::a=>by
  rw[List.cons_append,execs_cons,execs_cons,bind_assoc]
  congr 1;funext f
  cases f with
  | next=>exact zdv env b a
  | _=>rfl
theorem zeq {M:Model}{A:Around}{env:Env}{a b:List Stmt}{s:Shared}{Q:Flow→Shared→Prop}{E:Value→Shared→Prop}
  (h:wpAny M A (execs a env) (λf s'=>match f with | .next=>wpAny M A (execs b env) Q E s' | f=>Q f s') E s):wpAny M A (execs (a++b) env) Q E s:=by
 rw[zdv]
 refine wpAny_bind (wpAny_mono h (λf s' q=>?_) λ_ _ x=>x)
 cases f with
 | next=>exact q
 | _=>exact wpAny_pure q
structure Pin where
 P:Heap→Prop
 S:Addr→Prop
 keep:∀{h h':Heap},P h→(∀b o,h.get? b=some o→S b→h'.get? b=some o)→P h'
 al:∀{h:Heap}{b:Addr},P h→S b→h.get? b≠none
noncomputable def Wd.add (W:Wd) (N:Pin):Wd :=
 {W with
  Sy:=λb=>W.Sy b∨N.S b
  G:=λh=>W.G h∧N.P h
  keep:=λg k=>⟨W.keep g.1 λb o e q=>k b o e (q.imp .inl id),N.keep g.2 λb o e q=>k b o e (.inl (.inr q))⟩
  sy:=λg q=>q.elim (W.sy g.1) (N.al g.2)
  xsy:=λb q=>.inl (W.xsy b q)
  xcls:=λg q e=>W.xcls g.1 q e
  nolimit:=λg=>W.nolimit g.1
  gl:=λg=>W.gl g.1
  bl:=λg=>W.bl g.1}
section
variable {W:Wd}{N:Pin}{F:Fns}{k:Nat}
theorem zsx (hx:∀b,N.S b→¬W.X b) {s s':Shared} (x:Stp W s s') (p:N.P s.heap):Stp (W.add N) s s' :=
 ⟨x.evo,⟨x.g,N.keep p λb o e q=>x.evo b o e (hx b q)⟩,x.os,x.gens,x.bare,x.toks⟩
theorem zoo {s s':Shared} (x:Stp (W.add N) s s'):Stp W s s':=⟨x.evo,x.g.1,x.os,x.gens,x.bare,x.toks⟩
noncomputable def noF:Fns:=λ_ _=>none
theorem zfz (nb:∀h,W.G h→NoneBooked h) (pos:0 < W.tk0) (t1:FnAt W (zh 1) (.type "list")) (t2:FnAt W (zh 8) (.type "range")) (t3:FnAt W (zh 9) (.type "reversed")) (t4:FnAt W (zh 3) (.builtin "sorted")):Snd W noF k :=
 {fn:=λ_ _ _ _ h=>(nomatch h),gl:=λ_ h=>(nomatch h),fnt:=λ_ _ _ _ h=>(nomatch h),src:=λ_ _ h=>(nomatch h),tk:=λ_ h=>(nomatch h),nb:=nb,pos:=pos,tyList:=t1,tyRange:=t2,tyRev:=t3,fnSort:=t4}
theorem Snd.none (Z:Snd W F k) {k':Nat}:Snd W noF k':=zfz Z.nb Z.pos Z.tyList Z.tyRange Z.tyRev Z.fnSort
theorem Snd.add (Z:Snd W F k) {k':Nat}:Snd (W.add N) noF k' :=
 zfz (λh g=>Z.nb h g.1) Z.pos ⟨Z.tyList.1,Z.tyList.2⟩ ⟨Z.tyRange.1,Z.tyRange.2⟩ ⟨Z.tyRev.1,Z.tyRev.2⟩ ⟨Z.fnSort.1,Z.fnSort.2⟩
end
noncomputable def zoW (h:Heap) (b:Addr):Prop:=∀o,h.get? b=some o→¬(o.cls = .type "code"∧∃vs,o.data = .fields vs)
theorem zhw {h:Heap}{b:Addr}{vs:Array Value} (p:h.PlainList b vs):zoW h b:=λo e q=>by
 refine xE p λn e2=>?_;clear p
 rw[e]at e2;cases e2
 exact absurd (show Value.type "list" = Value.type "code" from q.1) (by decide)
theorem znS {W:Wd}{l:List Addr}{s:Shared} (g:W.G s.heap) (h:∀b∈l,¬W.Sy b∧zoW s.heap b):W.G (bs l s).heap:=W.keep g λb o e q=>by
 have hb:b ∉ l:=λhb=>q.elim (h b hb).1 ((h b hb).2 o e)
 rw[zbl hb];exact e
theorem zmP {W:Wd}{l:List Addr}{s s1:Shared} (x:Stp W s s1):Stp W (bs l s) s1 :=
 ⟨λb o e n=>by
  by_cases hb:b∈l
  ·rw[zcq hb]at e;cases e
  ·rw[zbl hb]at e;exact x.evo b o e n,x.g,x.os,x.gens,x.bare,x.toks⟩
structure CEnv (env:Env) (ns:List Str) (no:Nat):Prop where
 glob:env.globals=mainGlobals
 blt:env.builtins=builtinsNs
 kind:env.scope.kind = .function
 nd:ns.Nodup
 dbg:∀x∈ns,(x == ("__debug__" : Str))=false
 loc:∀i x,i < no→ns[i]? = some x→env.kindOf x=some .local∧env.cells.lookup x=none
 free:∀i x,no≤i→ns[i]? = some x→env.kindOf x=some .free∧(x == ("__classdict__" : Str))=false
 cinj:∀x y k,env.cells.lookup x=some k→env.cells.lookup y=some k→x=y
section
variable {W:Wd}{env:Env}{ns:List Str}{no:Nat}{l:List Addr}{s b:Shared}{k:Nat}{A:Around}{ρ:zc}{o:Nat→Option Addr}
theorem zig (C:CEnv env ns no) (hr:Rm k A) (gb:W.G b.heap) (ht:W.tk0≤b.toks) (hlb:b.heap.get? env.locals=none) (st:Stp W b s) (hloc:∃m,s.heap.Ns env.locals m)
  (hcel:∀x k,env.cells.lookup x=some k→∃v,s.heap.IsCell k v)
  (hv:∀i x bb,ns[i]? = some x→ρ[i]? = some (some bb)→∃v,Var env s.heap x v∧BV W s.heap o i bb v)
  (ho:∀i a,o i=some a→b.heap.get? a=none∧∃vs,s.heap.PlainList a vs) (hj:∀i j a,o i=some a→o j=some a→i=j) :
  Rel W {k:=k,A:=A,env:=env,base:=b,ns:=ns,no:=no} o ρ s :=
 ⟨{
   glob:=C.glob,blt:=C.blt,kind:=C.kind,nd:=C.nd,dbg:=C.dbg,room:=hr,good:=gb,toks:=ht,lnew:=hlb,
   cnew:=λi x k h1 h2 e=>by rw[(C.loc i x h1 h2).2]at e;cases e
   kinds:=λi x h1 h2=>.inl (C.loc i x h1 h2).1,cinj:=C.cinj},st,hloc,hcel,hv,ho,hj⟩
end
structure CloAt (W:Wd) (f:Addr) (fd:FuncData) (body:List Stmt) (ns:List Str) (no na:Nat):Prop where
 at_:∀h,W.G h→h.get? f=some {cls:=.type "function",data:=.func fd}
 body:fd.body = .stmts body
 glob:fd.globals=mainGlobals
 blt:fd.builtins=builtinsNs
 code:∀h,W.G h→h.CodeRec fd.code fd.qualname
 bind:∀vals:List Value,vals.length=na→bindArgs fd ⟨vals,[]⟩=pure ((ns.take na).zip vals)
 co:fd.scope.isCoroutine=false
 gen:fd.scope.isGenerator=false
 kind:fd.scope.kind = .function
 nd:ns.Nodup
 dbg:∀x∈ns,(x == ("__debug__" : Str))=false
 nle:na≤no
 len:no≤ns.length
 ncell:∀x∈fd.scope.names,x.2≠.cell
 loc:∀i x,i < no→ns[i]? = some x→fd.scope.names.lookup x=some .local∧fd.closure.lookup x=none
 free:∀i x,no≤i→ns[i]? = some x→fd.scope.names.lookup x=some .free∧(x == ("__classdict__" : Str))=false
 cinj:∀x y k,fd.closure.lookup x=some k→fd.closure.lookup y=some k→x=y
theorem zdz {α:Type}{l:List (Str×α)} (hn:(l.map (·.1)).Nodup) {x:Str}{v:α} (h:(x,v)∈l):l.reverse.lookup x=some v :=
 zag (by rw[List.map_reverse];exact(List.reverse_perm _).nodup_iff.mpr hn) (List.mem_reverse.mpr h)
section
variable {W:Wd}{f:Addr}{fd:FuncData}{body:List Stmt}{ns:List Str}{no na:Nat}{k:Nat}{A:Around}{s:Shared}{vs:List Value}
theorem CloAt.env (C:CloAt W f fd body ns no na) (L:Addr):CEnv (callEnv fd L f) ns no :=
 ⟨C.glob,C.blt,C.kind,C.nd,C.dbg,C.loc,C.free,C.cinj⟩
theorem zgU (C:CloAt W f fd body ns no na) (hr:Rm (k+1) A) (g:Gd W s) (hl:vs.length=na) {Q E:Value→Shared→Prop}
  (h:∀h₁ m,h₁.Ns s.heap.objs.size m→(∀b o,s.heap.get? b=some o→h₁.get? b=some o)→(∀(i:Nat) (x:Str) (v:Value),ns[i]? = some x→vs[i]? = some v→m x=some v)→Rm k (A.deeper (callEnv fd s.heap.objs.size f)) →
   ∀E':Value→Shared→Prop,wpAny W.M (A.deeper (callEnv fd s.heap.objs.size f)) (execs body (callEnv fd s.heap.objs.size f)) (λfl s'=>Q (match fl with | .ret v=>v | _=>.none) s') E' {s with heap:=h₁,toks:=s.toks+na}) :
  wpAny W.M A (call (.ref f) vs) Q E s:=by
 have hz:((ns.take na).zip vs).map (·.1)=ns.take na:=zft (by rw[List.length_take,hl];have:=C.nle;have:=C.len;omega)
 have hzl:((ns.take na).zip vs).length=na:=by
  rw[← List.length_map (f:=(·.1)),hz,List.length_take];have:=C.nle;have:=C.len;omega
 have nd:(((ns.take na).zip vs).map (·.1)).Nodup:=by rw[hz];exact C.nd.sublist (List.take_sublist _ _)
 refine wpAny_call (codeAny_call_def (show A.depth < recursionLimit from by have:=hr.2.1;exact Nat.lt_of_le_of_lt (Nat.le_add_right _ _) (show A.depth+(k+1) < 1000 from this)) (C.at_ _ g.1) rfl (W.nolimit g.1) (C.code _ g.1) C.body (.of_eq (C.bind vs hl)) C.ncell (λx hx=>?_) (λh₁ hns hk=>?_) C.co C.gen C.kind)
 ·have hm:x.1∈ns.take na:=hz▸List.mem_map_of_mem hx
  refine xE (List.mem_iff_getElem?.mp hm) λi hi=>?_
  rw[List.getElem?_take]at hi
  split at hi
  ·exact(C.loc i x.1 (Nat.lt_of_lt_of_le ‹_› C.nle) hi).1
  ·cases hi
 ·rw[hzl]
  refine wpAny_mono (h h₁ _ hns hk (λi x v h1 h2=>?_) (hr.deeper _) _) (λfl s' q=>q) λ_ _ x=>x
  refine zdz nd (List.mem_iff_getElem?.mpr ⟨i,?_⟩)
  rw[List.getElem?_zip_eq_some]
  have hi:i < na:=hl▸(List.getElem?_eq_some_iff.mp h2).1
  exact⟨by rw[List.getElem?_take,if_pos hi];exact h1,h2⟩
end
end Mine.Internal
end

noncomputable section
open PySem PySem.Calls PyProof.Rows PySem.SeqAt
namespace Mine.Internal
noncomputable def zfF:List Str:=["x","L","R","mid","shift","upper","lower","a_digits","inner","n"]
noncomputable def zgx:List U:=[.ite (.val (.cmp .Eq (.bin .Add (.var 1) (.lit (.int 1))) (.var 2))) [.seti 7 (.var 1) (.var 0),.ret (.lit .none)] [],
 .set 3 (.bin .RShift (.bin .Add (.var 1) (.var 2)) (.lit (.int 1))),.set 4 (.bin .Mult (.bin .Sub (.var 3) (.var 1)) (.var 9)),
 .set 5 (.bin .RShift (.var 0) (.var 4)),.set 6 (.bin .BitXor (.var 0) (.bin .LShift (.var 5) (.var 4)))]
noncomputable def zkI (n x L R:Int) (xs:List D):zc:=[some (.fz (.int x)),some (.fz (.int L)),some (.fz (.int R)),none,none,none,none,some (.mu xs),none,some (.fz (.int n))]
noncomputable def zkH (n x L R mid sh up lo:Int) (xs:List D):zc:=[some (.fz (.int x)),some (.fz (.int L)),some (.fz (.int R)),some (.fz (.int mid)),some (.fz (.int sh)),some (.fz (.int up)),some (.fz (.int lo)),some (.mu xs),none,some (.fz (.int n))]
noncomputable def zD (L R:Int):Int:=(L+R).fdiv (2 ^ 1)
noncomputable def zdA:Nat→Int→Int→Int→Int→List D→Option (List D)
 | 0,_,_,_,_,_=>none
 | k+1,n,x,L,R,xs =>
  if L+1=R then(if xs.length≤2 ^ 20 then zeH xs L (.int x) else none)
  else if Builtin.Int.intBits (zD L R - L)+Builtin.Int.intBits n≤2 ^ 20∧0≤(zD L R - L)*n∧(Builtin.Int.intBits (x.fdiv (2 ^ ((zD L R - L)*n).toNat)):Int)+(zD L R - L)*n≤2 ^ 20 then
   (zdA k n (Builtin.bitXor x (x.fdiv (2 ^ ((zD L R - L)*n).toNat)*2 ^ ((zD L R - L)*n).toNat)) L (zD L R) xs).bind λys=>zdA k n (x.fdiv (2 ^ ((zD L R - L)*n).toNat)) (zD L R) R ys
  else none
theorem zje {n x L R:Int}{xs ys:List D} (h:L+1=R) (hl:xs.length≤2 ^ 20) (hs:zeH xs L (.int x)=some ys):exs noF 0 (zkI n x L R xs) zgx=some (.ret .none,zkI n x L R ys):=by
 have e:(L+1 == R)=true:=by simpa using h
 exact zaz (zbe (zai (zax (p:=true) (zk rfl rfl rfl) rfl (congrArg some e)) rfl) ((za (zrB (d:=.int x) (xs:=xs) rfl rfl rfl (decide_eq_true hl) hs)).trans (zO rfl rfl)))
theorem zjd {n x L R:Int}{xs:List D} (h:L+1≠R) (h1:Builtin.Int.intBits (zD L R - L)+Builtin.Int.intBits n≤2 ^ 20) (h2:0≤(zD L R - L)*n)
  (h3:(Builtin.Int.intBits (x.fdiv (2 ^ ((zD L R - L)*n).toNat)):Int)+(zD L R - L)*n≤2 ^ 20) :
  exs noF 0 (zkI n x L R xs) zgx=some (.next,zkH n x L R (zD L R) ((zD L R - L)*n) (x.fdiv (2 ^ ((zD L R - L)*n).toNat)) (Builtin.bitXor x (x.fdiv (2 ^ ((zD L R - L)*n).toNat)*2 ^ ((zD L R - L)*n).toNat)) xs):=by
 have e:(L+1 == R)=false:=by simpa using h
 exact zdu (zbf (zai (zax (p:=false) (zk rfl rfl rfl) rfl (congrArg some e)) rfl)) (zdu (zcf (zk (zk rfl rfl rfl) rfl (zhc (n:=1) rfl)) rfl) (zdu (zcf (zk (zk rfl rfl rfl) rfl (zmg h1)) rfl) (zdu (zcf (zk rfl rfl (zuR h2)) rfl) (zdu (zcf (zk rfl (zk rfl rfl (zuS h2 h3)) rfl) rfl) rfl))))
noncomputable def zgc (xs:List D):Prop:=∀d∈xs,∃i,d = .int i
theorem zgc.rvs {h h':Heap}{X X':Addr→Prop}:∀{xs:List D}{vs:List Value},zgc xs→RVs h X xs vs→RVs h' X' xs vs
 | [],vs,_,r=>by rw[zQ r];exact RVs.nil
 | d::xs,vs,hi,r=>by
  refine zao r λv u r1 r2=>?_
  refine xE (hi d List.mem_cons_self) λi q1_=>?_;subst q1_
  refine zW r1 λt=>?_
  exact .cons (zi.mpr ⟨t,rfl⟩) (zgc.rvs (λd hd=>hi d (List.mem_cons_of_mem _ hd)) r2)
theorem zgp {xs ys:List D}{L x:Int} (h:zeH xs L (.int x)=some ys) (hi:zgc xs):zgc ys:=by
 unfold zeH at h
 have key:∀j,zgc (xs.set j (.int x)):=λj d hd=>by
  rcases List.mem_or_eq_of_mem_set hd with q | q
  ·exact hi d q
  ·exact⟨x,q⟩
 split at h
 ·split at h
  ·cases h;exact key _
  ·cases h
 ·split at h
  ·cases h;exact key _
  ·cases h
theorem zbM:∀{k:Nat}{n x L R:Int}{xs ys:List D},zdA k n x L R xs=some ys→zgc xs→zgc ys
 | 0,_,_,_,_,_,_,h,_=>by simp[zdA]at h
 | k+1,n,x,L,R,xs,ys,h,hi=>by
  unfold zdA at h
  split at h
  ·split at h
   ·exact zgp h hi
   ·cases h
  ·split at h
   ·simp only[Option.bind_eq_some_iff]at h
    refine xEA h λzs h1 h2=>?_;clear h
    exact zbM h2 (zbM h1 hi)
   ·cases h
theorem zjv {h:Heap}{k:Addr}{a b:Option Value} (x:h.IsCell k a) (y:h.IsCell k b):a=b:=by
 refine xEA x λo h1 h2=>?_;clear x
 refine xEA y λo' h3 h4=>?_;clear y
 rw[h1]at h3;cases h3
 rw[h2]at h4;cases h4;rfl
theorem zgO {W:Wd}{l:Addr}{s s':Shared}{k:Addr}{v:Option Value} (g:W.G s.heap) (x:Stp W (bs [l] s) s') (hl:∃vs,s.heap.PlainList l vs) (c:s.heap.IsCell k v):s'.heap.IsCell k v:=by
 refine xEA c λo ho hd=>?_;clear c
 have hk:k≠l:=by
  rintro rfl
  refine xEE hl λvs n e=>?_;clear hl
  rw[ho]at e;cases e;cases hd
 exact⟨o,x.evo _ _ (by rw[zbl (by simpa using hk)];exact ho) λq=>(W.xcls g q ho).2.2 _ hd,hd⟩
theorem ztu {W:Wd}{l:Addr}{s s':Shared}{k:Addr}{m:Str→Option Value} (g:W.G s.heap) (x:Stp W (bs [l] s) s') (hl:∃vs,s.heap.PlainList l vs) (c:s.heap.Ns k m):s'.heap.Ns k m:=by
 refine zcb c λo es ep ho hd r=>?_;clear c
 have hk:k≠l:=by
  rintro rfl
  refine xEE hl λvs n e=>?_;clear hl
  rw[ho]at e;cases e;cases hd
 exact⟨o,es,ep,x.evo _ _ (by rw[zbl (by simpa using hk)];exact ho) λq=>(W.xcls g q ho).2.1 _ _ hd,hd,r⟩
theorem Rel.after {W:Wd}{c:Cx}{o:Nat→Option Addr}{ρ ρ':zc}{s s':Shared}{i:Nat}{l:Addr}{ys:List D}{us:List Value} (rl:Rel W c o ρ s) (ho:o i=some l) (x:Stp W (bs [l] s) s')
  (p:s'.heap.PlainList l us.toArray) (hr:RVs s'.heap W.X ys us) (hf:zg ys=true) (hl:c.base.heap.get? l=none) (hvi:∀(nm:Str) (b:B),c.ns[i]? = some nm→ρ'[i]? = some (some b)→b = .mu ys∧∃b',ρ[i]? = some (some b')∧∃zs,b' = .mu zs)
  (hvj:∀j b,j≠i→ρ'[j]? = some (some b)→ρ[j]? = some (some b)∧∃d,b = .fz d∧zbp d=true):Rel W c (λj=>if j=i then some l else none) ρ' s':=by
 have pl:∃vs,s.heap.PlainList l vs:=(rl.own i l ho).2
 have vr:∀nm v,Var c.env s.heap nm v→Var c.env s'.heap nm v:=λnm v hv=>hv.to (λm h=>ztu rl.gd.1 x pl h) λ_ _ _ h=>zgO rl.gd.1 x pl h
 refine⟨rl.ok,⟨λb ob e n=>?_,x.g,x.os.trans rl.step.os,λj g e=>x.gens j g (rl.step.gens j g e),x.bare,Nat.le_trans rl.step.toks x.toks⟩,let ⟨m,h⟩:=rl.loc;⟨m,ztu rl.gd.1 x pl h⟩,
  λnm k e=>let ⟨v,h⟩:=rl.cel nm k e;⟨v,zgO rl.gd.1 x pl h⟩,λj nm b h1 h2=>?_,λj a e=>?_,λj1 j2 a e1 e2=>?_⟩
 ·have hb:b≠l:=by rintro rfl;rw[hl]at e;cases e
  exact x.evo b ob (by rw[zbl (by simpa using hb)];exact rl.step.evo b ob e n) n
 ·by_cases hj:j=i
  ·subst hj
   refine zvF (hvi nm b h1 h2) λq0_ b' h3 zs q4_=>?_;subst q0_;subst q4_
   refine zpa (rl.vars j nm _ h1 h3) λv hv a vs q4_ e2 _=>?_;subst q4_
   rw[ho]at e2;cases e2
   exact⟨_,vr _ _ hv,l,us,rfl,by simp,p,hr.flat hf⟩
  ·refine zvg (hvj j b hj h2) λh3 d q2_ hd=>?_;subst q2_
   refine xEA (rl.vars j nm _ h1 h3) λv hv hb=>?_
   refine⟨v,vr _ _ hv,RV.flat_to hd hb λb ob e hc=>?_⟩
   have hb:b≠l:=by
    rintro rfl
    refine xEE pl λvs n e2=>?_;clear pl
    rw[e]at e2;cases e2
    exact absurd (show Value.type "list" = Value.type "tuple" from hc.1) (by decide)
   exact x.evo b ob (by rw[zbl (by simpa using hb)];exact e) λq=>(W.xcls rl.gd.1 q e).1 hc.1
 ·split at e
  ·cases e;exact⟨hl,_,p⟩
  ·cases e
 ·split at e1<;>split at e2
  ·exact(‹j1=i›).trans (‹j2=i›).symm
  ·cases e2
  ·cases e1
  ·cases e1
end Mine.Internal
end

noncomputable section
open PySem PySem.Calls PyProof.Rows PySem.SeqAt
namespace Mine.Internal
noncomputable def zmU (fd:FuncData):Sc:={names:=fd.scope.names,ns:=zfF,no:=7}
structure In25 (W:Wd) (f l ka ki kn:Addr) (n:Int) (tn:Tok) (fd:FuncData) (bpre:List Stmt) (es1 es2:List Expr) (p1 p2 q1 q2 r1 r2:Pos):Prop where
 C:CloAt W f fd (bpre++[.Expr (.Call (.Name "inner" p1) es1 [] q1) r1,.Expr (.Call (.Name "inner" p2) es2 [] q2) r2]) zfF 7 3
 la:fd.closure.lookup ("a_digits" : Str)=some ka
 li:fd.closure.lookup ("inner" : Str)=some ki
 ln:fd.closure.lookup ("n" : Str)=some kn
 cl:∀x kk,fd.closure.lookup x=some kk→∃v,∀h,W.G h→h.IsCell kk v
 ca:∀h,W.G h→h.IsCell ka (some (.ref l))
 ci:∀h,W.G h→h.IsCell ki (some (.ref f))
 cn:∀h,W.G h→h.IsCell kn (some (.int n tn))
 sy:¬W.Sy l
 mp:mSs (zmU fd) zgx bpre=true
 n1:ze es1=true
 m1:mEs (zmU fd) [.var 6,.var 1,.var 3] es1=true
 n2:ze es2=true
 m2:mEs (zmU fd) [.var 5,.var 3,.var 2] es2=true
section
variable {W:Wd}{f l ka ki kn:Addr}{n:Int}{tn:Tok}{fd:FuncData}{bpre:List Stmt}{es1 es2:List Expr}{p1 p2 q1 q2 r1 r2:Pos}
theorem zcP {xs:List D} (h:zgc xs):zg xs=true:=by
 induction xs with
 | nil=>rfl
 | cons d r ih =>
  refine xE (h d List.mem_cons_self) λi q1_=>?_;subst q1_
  simp only[zde,zqG,Bool.true_and]
  exact ih λd hd=>h d (List.mem_cons_of_mem _ hd)
theorem In25.list (I:In25 W f l ka ki kn n tn fd bpre es1 es2 p1 p2 q1 q2 r1 r2) {c:Cx}{L:Addr}{o:Nat→Option Addr}{ρ:zc}{s:Shared}{ys:List D} (he:c.env=callEnv fd L f) (hns:c.ns=zfF) (rl:Rel W c o ρ s) (hρ:ρ[7]? = some (some (.mu ys))) :
  o 7=some l∧∃vs,s.heap.PlainList l vs.toArray∧RVs s.heap (OX W o) ys vs:=by
 refine zcv (rl.vars 7 "a_digits" _ (by rw[hns];rfl) hρ) λv hv a vs q4_ h2 h3 h4=>?_;subst q4_
 have:a=l:=by
  rcases hv with ⟨hk,_⟩ | ⟨_,k,hk,hc⟩
  ·rw[he,(I.C.env L).free 7 "a_digits" (by decide) rfl |>.1]at hk;cases hk
  ·rw[he]at hk
   rw[show(callEnv fd L f).cells.lookup ("a_digits" : Str)=some ka from I.la]at hk
   cases hk
   have:=zjv hc (I.ca _ rl.gd.1)
   cases this;rfl
 subst this
 exact⟨h2,vs,h3,h4⟩
theorem zjr (I:In25 W f l ka ki kn n tn fd bpre es1 es2 p1 p2 q1 q2 r1 r2) {A:Around}{L:Addr}{s:Shared}{p:Pos} (g:W.G s.heap) {Q E:Value→Shared→Prop} (h:Q (.ref f) s):wpAny W.M A (eval (.Name "inner" p) (callEnv fd L f)) Q E s :=
 wpAny_Name (wpAny_loadName_free I.C.kind ((I.C.env L).free 8 "inner" (by decide) rfl).1 I.li (I.ci _ g) h ((I.C.env L).free 8 "inner" (by decide) rfl).2) (I.C.dbg _ (by decide))
noncomputable def zvf (W:Wd) (f l:Addr) (d:Nat) (x L R:Int) (xs ys:List D):Prop :=
 ∀(A:Around) (s:Shared) (us:List Value) (vs:List Value),Rm d A→Gd W s→W.tk0≤s.toks→s.heap.PlainList l us.toArray→RVs s.heap W.X xs us→RVs s.heap W.X [.int x,.int L,.int R] vs →
  ∀(Q E:Value→Shared→Prop),(∀s' us',Stp W (bs [l] s) s'→s'.heap.PlainList l us'.toArray→RVs s'.heap W.X ys us'→Q .none s')→wpAny W.M A (call (.ref f) vs) Q E s
theorem zoS (I:In25 W f l ka ki kn n tn fd bpre es1 es2 p1 p2 q1 q2 r1 r2) (Z:∀k,Snd W noF k) {d:Nat}{x L R:Int}{xs ys:List D} (K:zvf W f l d x L R xs ys) {c:Cx}{La:Addr}{ρ:zc}{ts:List T}{es:List Expr}{p q r:Pos}{rest:List Stmt}
  (hk:c.k=d) (he:c.env=callEnv fd La f) (hns:c.ns=zfF) (hno:c.no=7) (hn:ze es=true) (hm:mEs (zmU fd) ts es=true) (hv:evs noF ρ ts=some [.int x,.int L,.int R]) (hρ:ρ[7]? = some (some (.mu xs))) (hxi:zgc xs) (hyi:zgc ys)
  (hoth:∀j b,j≠7→ρ[j]? = some (some b)→∃d,b = .fz d∧zbp d=true) (hbl:c.base.heap.get? l=none)
  {o:Nat→Option Addr}{s:Shared} (rl:Rel W c o ρ s) {Q:Flow→Shared→Prop}{E:Value→Shared→Prop}
  (h:∀o' s',Rel W c o' (ρ.set 7 (some (.mu ys))) s'→wpAny W.M c.A (execs rest c.env) Q E s'):wpAny W.M c.A (execs (.Expr (.Call (.Name "inner" p) es [] q) r::rest) c.env) Q E s:=by
 have fits:Fits c (zmU fd):=⟨by rw[he];exact I.C.kind,by rw[he];rfl,hns,hno⟩
 have EL:=(zbj (Z c.k) ts (zmU fd) c ρ es _ rfl fits hn hm hv).1
 refine wpAny_execs_cons (wpAny_Expr ?_ (by unfold interactive;rw[rl.ok.kind];rfl) rfl)
 refine wpAny_Call_NameR ?_
 have hload:∀Q':Value→Shared→Prop,Q' (.ref f) s→wpAny W.M c.A (eval (.Name "inner" p) c.env) Q' E s:=λQ' hq=>by rw[he];exact zjr I rl.gd.1 hq
 refine hload _ (zS (W:=W) (fv:=.ref f) (show zba W (.ref f) from⟨_,fd,rfl,I.C.at_⟩) hn EL rl λvs s1 x1 rv=>?_)
 have rl1:=rl.mono x1
 refine zvg (I.list he hns rl1 hρ) λho us hp hr=>?_
 refine K c.A s1 us vs (hk▸rl.ok.room) x1.gd (Nat.le_trans rl.ok.toks (Nat.le_trans rl.step.toks x1.toks)) hp (hxi.rvs hr) rv _ _ λs2 us' x2 hp2 hr2=>?_
 refine h _ s2 (rl1.after ho x2 hp2 hr2 (zcP hyi) hbl (λnm b h1 h2=>?_) λj b hj h2=>?_)
 ·rw[List.getElem?_set_self' ,hρ]at h2
  cases h2
  exact⟨rfl,_,hρ,xs,rfl⟩
 ·rw[List.getElem?_set_ne (λe=>hj e.symm)]at h2
  refine xEA (hoth j b hj h2) λd e1 e2=>?_
  exact⟨h2,d,e1,e2⟩
theorem zhH (I:In25 W f l ka ki kn n tn fd bpre es1 es2 p1 p2 q1 q2 r1 r2) (Z:∀k,Snd W noF k):∀(k d:Nat) (x L R:Int) (xs ys:List D),zgc xs→zdA k n x L R xs=some ys→zvf W f l (k+d) x L R xs ys
 | 0,d,x,L,R,xs,ys,hi,h=>by simp[zdA]at h
 | k+1,d,x,L,R,xs,ys,hi,h=>λA s us vs hr g ht hp hru hv Q E kk=>by
  have e3:k+1+d=(k+d)+1:=(Nat.add_right_comm _ _ _)
  rw[e3]at hr
  refine zgU I.C hr g (by rw[hv.len];rfl) λh₁ m hm hkeep hbind hr1 E'=>?_
  let env:=callEnv fd s.heap.objs.size f
  let c:Cx:={k:=k+d,A:=A.deeper env,env:=env,base:=bs [l] s,ns:=zfF,no:=7}
  have hlne:l≠s.heap.objs.size:=by
   refine xE hp λ_ e=>?_;clear hp
   exact Nat.ne_of_lt (Heap.lt_size e)
  have gb:W.G (bs [l] s).heap:=znS g.1 λb hb=>by
   rw[List.mem_singleton]at hb;subst hb;exact⟨I.sy,zhw hp⟩
  have st1:Stp W s {s with heap:=h₁,toks:=s.toks+3}:=g.keeps hkeep
  refine zbb (zdE hv) λv0 u0 q2_ rx hv'=>?_;subst q2_
  refine zbb (zvn hv') λv1 v2 q2_ rL rR=>?_;subst q2_
  refine xE (zi.mp rx) λtx q1_=>?_;subst q1_
  refine xE (zi.mp rL) λtL q1_=>?_;subst q1_
  refine xE (zi.mp rR) λtR q1_=>?_;subst q1_
  have p1':h₁.PlainList l us.toArray:=by refine xE hp λnn e=>?_;clear hp;exact⟨nn,hkeep _ _ e⟩
  have ge1:W.G h₁:=st1.g
  have rl:Rel W c (λi=>if i=7 then some l else none) (zkI n x L R xs) {s with heap:=h₁,toks:=s.toks+3}:=by
   refine zig (I.C.env _) hr1 gb ht ?_ (zmP st1) ⟨m,hm⟩ (λy kk e=>?_) (λi y b h1 h2=>?_) (λi a e=>?_) λi j a e1 e2=>?_
   ·show(bs [l] s).heap.get? s.heap.objs.size=none
    rw[zbl (by simpa using (Ne.symm hlne))];exact zap _
   ·refine xE (I.cl y kk e) λv hc=>?_
    exact⟨v,hc _ ge1⟩
   ·have lc:∀(j:Nat) (z:Str) (w:Value),j < 7→zfF[j]? = some z→m z=some w→Var (callEnv fd s.heap.objs.size f) h₁ z w:=λj z w hj hz hw=>.inl ⟨(I.C.env _).loc j z hj hz |>.1,m,hm,hw⟩
    have fr:∀(j:Nat) (z:Str) (w:Value) (kc:Addr),7≤j→zfF[j]? = some z→fd.closure.lookup z=some kc→h₁.IsCell kc (some w)→Var (callEnv fd s.heap.objs.size f) h₁ z w:=λj z w kc hj hz hl hc=>.inr ⟨.inr ((I.C.env _).free j z hj hz),kc,hl,hc⟩
    match i,h2 with
    | 0,h2=>cases h2;exact⟨.int x tx,lc 0 y _ (by decide) h1 (hbind 0 y _ h1 rfl),(zi (h:=h₁) (X:=OX W (λi=>if i=7 then some l else none))).mpr ⟨tx,rfl⟩⟩
    | 1,h2=>cases h2;exact⟨.int L tL,lc 1 y _ (by decide) h1 (hbind 1 y _ h1 rfl),(zi (h:=h₁) (X:=OX W (λi=>if i=7 then some l else none))).mpr ⟨tL,rfl⟩⟩
    | 2,h2=>cases h2;exact⟨.int R tR,lc 2 y _ (by decide) h1 (hbind 2 y _ h1 rfl),(zi (h:=h₁) (X:=OX W (λi=>if i=7 then some l else none))).mpr ⟨tR,rfl⟩⟩
    | 7,h2 =>
     cases h2
     refine⟨.ref l,fr 7 y _ ka (by decide) h1 ?_ (I.ca _ ge1),l,us,rfl,rfl,p1',hi.rvs hru⟩
     cases h1;exact I.la
    | 9,h2 =>
     cases h2
     refine⟨.int n tn,fr 9 y _ kn (by decide) h1 ?_ (I.cn _ ge1),(zi (h:=h₁) (X:=OX W (λi=>if i=7 then some l else none))).mpr ⟨tn,rfl⟩⟩
     cases h1;exact I.ln
    | 3,h2=>cases h2
    | 4,h2=>cases h2
    | 5,h2=>cases h2
    | 6,h2=>cases h2
    | 8,h2=>cases h2
    | j+10,h2=>simp[zkI]at h2
   ·split at e
    ·cases e;exact⟨zcq (by simp),_,p1'⟩
    ·cases e
   ·split at e1<;>split at e2
    ·exact(‹i=7›).trans (‹j=7›).symm
    ·cases e2
    ·cases e1
    ·cases e1
  have fits:Fits c (zmU fd):=⟨I.C.kind,rfl,rfl,rfl⟩
  unfold zdA at h
  refine zeq ?_
  split at h
  ·rename_i hLR
   split at h
   ·rename_i hlen
    have EX:=zbL (Z (k+d)) zgx (zmU fd) c _ bpre _ _ rfl fits I.mp (zje (n:=n) (R:=R) hLR hlen h)
    refine wpAny_mono (EX _ _ rl E') (λfl s' D=>?_) λ_ _ x=>x
    obtain⟨o',r',⟨v,rfl,hv0⟩,_⟩:=D
    simp only[rq_n]at hv0
    subst hv0
    refine zvg (I.list rfl rfl r' rfl) λ_ us' hp' hr'=>?_
    exact kk s' us' r'.step hp' ((zgp h hi).rvs hr')
   ·cases h
  ·rename_i hLR
   split at h
   ·rename_i hc
    simp only[Option.bind_eq_some_iff]at h
    refine xEA h λzs h1 h2=>?_;clear h
    have hzi:=zbM h1 hi
    have hyi:=zbM h2 hzi
    have EX:=zbL (Z (k+d)) zgx (zmU fd) c _ bpre _ _ rfl fits I.mp (zjd (xs:=xs) hLR hc.1 hc.2.1 hc.2.2)
    refine wpAny_mono (EX _ _ rl E') (λfl s' D=>?_) λ_ _ x=>x
    obtain⟨o',r',hf,_⟩:=D
    simp only[zeM]at hf
    subst hf
    have oth:∀(zs:List D) (mid sh up lo:Int) (j:Nat) b,j≠7→(zkH n x L R mid sh up lo zs)[j]? = some (some b)→∃d,b = .fz d∧zbp d=true:=by
     intro zs mid sh up lo j b hj e
     match j,e with
     | 0,e=>cases e;exact⟨_,rfl,rfl⟩
     | 1,e=>cases e;exact⟨_,rfl,rfl⟩
     | 2,e=>cases e;exact⟨_,rfl,rfl⟩
     | 3,e=>cases e;exact⟨_,rfl,rfl⟩
     | 4,e=>cases e;exact⟨_,rfl,rfl⟩
     | 5,e=>cases e;exact⟨_,rfl,rfl⟩
     | 6,e=>cases e;exact⟨_,rfl,rfl⟩
     | 7,e=>exact absurd rfl hj
     | 8,e=>cases e
     | 9,e=>cases e;exact⟨_,rfl,rfl⟩
     | j+10,e=>simp[zkH]at e
    refine zoS I Z (zhH I Z k d _ _ _ xs zs hi h1) (c:=c) rfl rfl rfl rfl I.n1 I.m1 rfl rfl hi hzi (oth _ _ _ _ _) (zcq (by simp)) r' λo1 s1 rl1=>?_
    refine zoS I Z (zhH I Z k d _ _ _ zs ys hzi h2) (c:=c) rfl rfl rfl rfl I.n2 I.m2 rfl rfl hzi hyi (oth zs _ _ _ _) (zcq (by simp)) rl1 λo2 s2 rl2=>?_
    refine wpAny_execs_nil ?_
    refine zvg (I.list rfl rfl rl2 rfl) λ_ us' hp' hr'=>?_
    exact kk s2 us' rl2.step hp' (hyi.rvs hr')
   ·cases h
end
end Mine.Internal
end

noncomputable section
open PySem PySem.Calls PyProof.Rows PySem.SeqAt
namespace Mine.Internal
noncomputable def zfe:List Str:=["L","R","mid","shift","digits","inner","n"]
noncomputable def zgw:List U:=[.ite (.val (.cmp .Eq (.bin .Add (.var 0) (.lit (.int 1))) (.var 1))) [.ret (.sub (.var 4) (.var 0))] [],
 .set 2 (.bin .RShift (.bin .Add (.var 0) (.var 1)) (.lit (.int 1))),.set 3 (.bin .Mult (.bin .Sub (.var 2) (.var 0)) (.var 6))]
noncomputable def zkG (n L R:Int) (ds:List D):zc:=[some (.fz (.int L)),some (.fz (.int R)),none,none,some (.fz (.list ds)),none,some (.fz (.int n))]
noncomputable def zie (n L R mid sh:Int) (ds:List D):zc:=[some (.fz (.int L)),some (.fz (.int R)),some (.fz (.int mid)),some (.fz (.int sh)),some (.fz (.list ds)),none,some (.fz (.int n))]
noncomputable def zfJ:Nat→Int→List D→Int→Int→Option Int
 | 0,_,_,_,_=>none
 | k+1,n,ds,L,R =>
  if L+1=R then(match zho (.list ds) (.int L) with | some (.int v)=>some v | _=>none)
  else if Builtin.Int.intBits (zD L R - L)+Builtin.Int.intBits n≤2 ^ 20 then
   (zfJ k n ds (zD L R) R).bind λa=>(zfJ k n ds L (zD L R)).bind λb =>
    if 0≤(zD L R - L)*n∧(Builtin.Int.intBits a:Int)+(zD L R - L)*n≤2 ^ 20 then some (a*2 ^ ((zD L R - L)*n).toNat+b) else none
  else none
theorem zjc {n L R v:Int}{ds:List D} (h:L+1=R) (hs:zho (.list ds) (.int L)=some (.int v)):exs noF 0 (zkG n L R ds) zgw=some (.ret (.int v),zkG n L R ds):=by
 have e:(L+1 == R)=true:=by simpa using h
 exact zaz (zbe (zai (zax (p:=true) (zk rfl rfl rfl) rfl (congrArg some e)) rfl) (zO (zkl rfl rfl hs) rfl))
theorem zjb {n L R:Int}{ds:List D} (h:L+1≠R) (h1:Builtin.Int.intBits (zD L R - L)+Builtin.Int.intBits n≤2 ^ 20) :
  exs noF 0 (zkG n L R ds) zgw=some (.next,zie n L R (zD L R) ((zD L R - L)*n) ds):=by
 have e:(L+1 == R)=false:=by simpa using h
 exact zdu (zbf (zai (zax (p:=false) (zk rfl rfl rfl) rfl (congrArg some e)) rfl)) (zdu (zcf (zk (zk rfl rfl rfl) rfl (zhc (n:=1) rfl)) rfl) (zdu (zcf (zk (zk rfl rfl rfl) rfl (zmg h1)) rfl) rfl))
noncomputable def zmp (fd:FuncData):Sc:={names:=fd.scope.names,ns:=zfe,no:=4}
structure In26 (W:Wd) (f kd ki kn:Addr) (n:Int) (tn:Tok) (ds:List D) (vd:Value) (fd:FuncData) (bpre:List Stmt) (es1 es2:List Expr) (esh:Expr) (p1 p2 q1 q2 r1 r2 r3:Pos):Prop where
 C:CloAt W f fd (bpre++[.Return (some (.BinOp (.BinOp (.Call (.Name "inner" p1) es1 [] q1) .LShift esh r1) .Add (.Call (.Name "inner" p2) es2 [] q2) r2)) r3]) zfe 4 2
 ld:fd.closure.lookup ("digits" : Str)=some kd
 li:fd.closure.lookup ("inner" : Str)=some ki
 ln:fd.closure.lookup ("n" : Str)=some kn
 cl:∀x kk,fd.closure.lookup x=some kk→∃v,∀h,W.G h→h.IsCell kk v
 cd:∀h,W.G h→h.IsCell kd (some vd)
 dv:∀h,W.G h→RV h W.X (.list ds) vd
 ci:∀h,W.G h→h.IsCell ki (some (.ref f))
 cn:∀h,W.G h→h.IsCell kn (some (.int n tn))
 mp:mSs (zmp fd) zgw bpre=true
 n1:ze es1=true
 m1:mEs (zmp fd) [.var 2,.var 1] es1=true
 n2:ze es2=true
 m2:mEs (zmp fd) [.var 0,.var 2] es2=true
 mh:mE (zmp fd) (.var 3) esh=true
section
variable {W:Wd}{f kd ki kn:Addr}{n:Int}{tn:Tok}{ds:List D}{vd:Value}{fd:FuncData}{bpre:List Stmt}{es1 es2:List Expr}{esh:Expr}{p1 p2 q1 q2 r1 r2 r3:Pos}
theorem zgN (I:In26 W f kd ki kn n tn ds vd fd bpre es1 es2 esh p1 p2 q1 q2 r1 r2 r3) {A:Around}{L:Addr}{s:Shared}{p:Pos} (g:W.G s.heap) {Q E:Value→Shared→Prop} (h:Q (.ref f) s):wpAny W.M A (eval (.Name "inner" p) (callEnv fd L f)) Q E s :=
 wpAny_Name (wpAny_loadName_free I.C.kind ((I.C.env L).free 5 "inner" (by decide) rfl).1 I.li (I.ci _ g) h ((I.C.env L).free 5 "inner" (by decide) rfl).2) (I.C.dbg _ (by decide))
theorem ziF (I:In26 W f kd ki kn n tn ds vd fd bpre es1 es2 esh p1 p2 q1 q2 r1 r2 r3) {κ:Kd}{c:Cx}{La:Addr}{ρ:zc}{es:List Expr}{p q:Pos}{as:List D}{d:D} (he:c.env=callEnv fd La f) (hn:ze es=true) (h:EvL W .al c ρ es as) (ok:zab W c.k (.ref f) as d) :
  Ev W κ c ρ (.Call (.Name "inner" p) es [] q) d:=λo s rl Q E k=>by
 have hload:∀Q':Value→Shared→Prop,Q' (.ref f) s→wpAny W.M c.A (eval (.Name "inner" p) c.env) Q' E s:=λQ' hq=>by rw[he];exact zgN I rl.gd.1 hq
 exact wpAny_Call_NameR (hload _ (zS (fv:=.ref f) (show zba W (.ref f) from⟨_,fd,rfl,I.C.at_⟩) hn h rl λvs s1 x1 r1=>ok _ _ _ rl.ok.room x1.gd (Nat.le_trans rl.ok.toks (Nat.le_trans rl.step.toks x1.toks)) r1 Q E λr s2 x2 r2=>k _ _ (x1.trans x2) ((r2.back rl.gd.1 x1).fresh rl)))
theorem zhG (I:In26 W f kd ki kn n tn ds vd fd bpre es1 es2 esh p1 p2 q1 q2 r1 r2 r3) (Z:∀k,Snd W noF k):∀(k d:Nat) (L R v:Int),zfJ k n ds L R=some v→zab W (k+d) (.ref f) [.int L,.int R] (.int v)
 | 0,d,L,R,v,h=>by simp[zfJ]at h
 | k+1,d,L,R,v,h=>λA s vs hr g ht hv Q E kk=>by
  have e3:k+1+d=(k+d)+1:=(Nat.add_right_comm _ _ _)
  rw[e3]at hr
  refine zgU I.C hr g (by rw[hv.len];rfl) λh₁ m hm hkeep hbind hr1 E'=>?_
  let env:=callEnv fd s.heap.objs.size f
  let c:Cx:={k:=k+d,A:=A.deeper env,env:=env,base:=s,ns:=zfe,no:=4}
  have st1:Stp W s {s with heap:=h₁,toks:=s.toks+2}:=g.keeps hkeep
  refine zbb (zvn hv) λv1 v2 q2_ rL rR=>?_;subst q2_
  refine xE (zi.mp rL) λtL q1_=>?_;subst q1_
  refine xE (zi.mp rR) λtR q1_=>?_;subst q1_
  have ge1:W.G h₁:=st1.g
  have rl:Rel W c (λ_=>none) (zkG n L R ds) {s with heap:=h₁,toks:=s.toks+2}:=by
   refine zig (I.C.env _) hr1 g.1 ht (zap _) st1 ⟨m,hm⟩ (λy kk e=>?_) (λi y b h1 h2=>?_) (λi a e=>nomatch e) λi j a e1 e2=>nomatch e1
   ·refine xE (I.cl y kk e) λv hc=>?_
    exact⟨v,hc _ ge1⟩
   ·have lc:∀(j:Nat) (z:Str) (w:Value),j < 4→zfe[j]? = some z→m z=some w→Var (callEnv fd s.heap.objs.size f) h₁ z w:=λj z w hj hz hw=>.inl ⟨(I.C.env _).loc j z hj hz |>.1,m,hm,hw⟩
    have fr:∀(j:Nat) (z:Str) (w:Value) (kc:Addr),4≤j→zfe[j]? = some z→fd.closure.lookup z=some kc→h₁.IsCell kc (some w)→Var (callEnv fd s.heap.objs.size f) h₁ z w:=λj z w kc hj hz hl hc=>.inr ⟨.inr ((I.C.env _).free j z hj hz),kc,hl,hc⟩
    match i,h2 with
    | 0,h2=>cases h2;exact⟨.int L tL,lc 0 y _ (by decide) h1 (hbind 0 y _ h1 rfl),(zi (h:=h₁) (X:=OX W (λ_=>none))).mpr ⟨tL,rfl⟩⟩
    | 1,h2=>cases h2;exact⟨.int R tR,lc 1 y _ (by decide) h1 (hbind 1 y _ h1 rfl),(zi (h:=h₁) (X:=OX W (λ_=>none))).mpr ⟨tR,rfl⟩⟩
    | 4,h2 =>
     cases h2
     refine⟨vd,fr 4 y _ kd (by decide) h1 ?_ (I.cd _ ge1),?_⟩
     ·cases h1;exact I.ld
     ·exact(I.dv _ ge1).weak λa q=>by
       rcases q with q | ⟨j,q⟩
       ·exact q
       ·cases q
    | 6,h2 =>
     cases h2
     refine⟨.int n tn,fr 6 y _ kn (by decide) h1 ?_ (I.cn _ ge1),(zi (h:=h₁) (X:=OX W (λ_=>none))).mpr ⟨tn,rfl⟩⟩
     cases h1;exact I.ln
    | 2,h2=>cases h2
    | 3,h2=>cases h2
    | 5,h2=>cases h2
    | j+7,h2=>simp[zkG]at h2
  have fits:Fits c (zmp fd):=⟨I.C.kind,rfl,rfl,rfl⟩
  have fin:∀(fl:Flow) (s':Shared) (ρ':zc) (d:D),Done W c (λ_=>none) {s with heap:=h₁,toks:=s.toks+2} (.ret d) ρ' fl s'→d = .int v→Q (match fl with | .ret v=>v | _=>.none) s':=by
   rintro fl s' ρ' d D rfl
   obtain⟨o',r',⟨v,rfl,hv⟩,_⟩:=D
   exact kk _ _ r'.step (hv.weak λb q=>.inr q)
  unfold zfJ at h
  refine zeq ?_
  split at h
  ·rename_i hLR
   split at h
   ·rename_i v' hsub
    cases h
    have EX:=zbL (Z (k+d)) zgw (zmp fd) c _ bpre _ _ rfl fits I.mp (zjc (n:=n) (R:=R) hLR hsub)
    refine wpAny_mono (EX _ _ rl E') (λfl s' D=>?_) λ_ _ x=>x
    have q:=fin fl s' _ _ D rfl
    obtain⟨o',r',⟨v,rfl,hv⟩,_⟩:=D
    exact q
   ·cases h
  ·rename_i hLR
   split at h
   ·rename_i hc
    simp only[Option.bind_eq_some_iff]at h
    refine zvC h λa h1 b h2 h3=>?_;clear h
    split at h3
    ·rename_i hcc
     cases h3
     have EX:=zbL (Z (k+d)) zgw (zmp fd) c _ bpre _ _ rfl fits I.mp (zjb (ds:=ds) hLR hc)
     refine wpAny_mono (EX _ _ rl E') (λfl s' D=>?_) λ_ _ x=>x
     obtain⟨o',r',hf,l1,n1,g1,a1⟩:=D
     simp only[zeM]at hf
     subst hf
     have EL1:=(zbj (Z (k+d)) [.var 2,.var 1] (zmp fd) c (zie n L R (zD L R) ((zD L R - L)*n) ds) es1 _ rfl fits I.n1 I.m1 rfl).1
     have EL2:=(zbj (Z (k+d)) [.var 0,.var 2] (zmp fd) c (zie n L R (zD L R) ((zD L R - L)*n) ds) es2 _ rfl fits I.n2 I.m2 rfl).1
     have Es:=(zw (Z (k+d)) (.var 3) (zmp fd) c (zie n L R (zD L R) ((zD L R - L)*n) ds) esh _ rfl fits I.mh rfl).1
     have E1:=ziF I (κ:=.al) (p:=p1) (q:=q1) (c:=c) rfl I.n1 EL1 (zhG I Z k d _ _ a h1)
     have E2:=ziF I (κ:=.al) (p:=p2) (q:=q2) (c:=c) rfl I.n2 EL2 (zhG I Z k d _ _ b h2)
     have B1:=ziH (W:=W) (κ:=.al) (pos:=r1) E1 Es (zmN (op:=.LShift) (d:=.int (a*2 ^ ((zD L R - L)*n).toNat)) (by simp only[zH,zlp];rw[if_pos hcc]))
     have B2:=ziH (W:=W) (κ:=.ba) (pos:=r2) B1 E2 (zmN (op:=.Add) (d:=.int (a*2 ^ ((zD L R - L)*n).toNat+b)) rfl)
     refine wpAny_mono (zaY (ss:=[]) (zfk (pos:=r3) B2) nofun o' s' r' E') (λfl s2 D2=>?_) λ_ _ x=>x
     obtain⟨o2,r2',⟨v2,rfl,hv2⟩,_⟩:=D2
     exact kk _ _ r2'.step (hv2.weak λb q=>.inr q)
    ·cases h3
   ·cases h
end
end Mine.Internal
end

noncomputable section
open PySem PySem.Calls PyProof.Rows PySem.SeqAt PySem.W
namespace Mine.Internal
noncomputable def zeF (h:Heap) (cc:Addr):Prop:=∃o,h.get? cc=some o∧o.cls = .type "code"
section
variable {M:Model}{A:Around}{E:Value→Shared→Prop}{s:Shared}
theorem zla {name qual:Str}{params:Arguments}{body:List Stmt}{scope:Scope}{env:Env}{c P:Addr}{ps:Array Value}{pos:Pos}{mg:Str→Option Value}{clos:List (Str×Addr)}{Q:Value→Shared→Prop}
  (hcl:closureFor scope env=pure clos) (hne:clos≠[]) (hge0:env.globals=mainGlobals) (hg:s.heap.Ns mainGlobals mg) (hcode:env.code = .ref c) (C:CodeHd s.heap c P) (hP:s.heap.get? P=some (tabObj ps)) (ht:TriplesOk ps.toList)
  (hnf:codeAmong pos ps.toList=none) (hgP:mainGlobals≠P) (hb:s.heap.BuiltinsAt mg P)
  (h:∀c' ctv doc h' tk,Heap.ExtBut P s.heap h'→s.heap.objs.size≤c'→c' < h'.objs.size→h'.CodeRec (.ref c') qual→zeF h' c'→h'.get? P=some (tabObj (ps++#[rawInt pos.line,rawInt pos.col,.ref c'])) →
   Q (.ref h'.objs.size) {s with heap:=h'.push (fnMade name qual params body scope clos doc ((mg "__name__").getD .none) c' ctv),toks:=tk}) :
  wpAny M A (makeFunction name qual params (.stmts body) scope env [] [] [] pos pos.line) Q E s:=by
 refine zeP hb λbm ob hbm hne0 _ hneP hbo hcls hdict hdata=>?_;clear hb
 rw[makeFunction_eq]
 simp only[List.zip_nil_right,List.filterMap_nil,List.isEmpty_nil,if_true,pure_bind]
 unfold makeTail
 rw[hcl,hge0]
 refine wpAny_bind (wpAny_pure ?_)
 have he:clos.isEmpty=false:=by cases clos with
  | nil=>exact absurd rfl hne
  | cons _ _=>rfl
 rw[he]
 simp only[Bool.false_eq_true,if_false]
 refine wpAny_bind (wpAny_newTextTuple ?_)
 refine wpAny_bind (wpAny_functionCodeX hcode ((C.keeps λb o e=>Heap.get?_push_of_some _ e).code (Heap.get?_push_of_some _ hP) ht) ((C.keeps λb o e=>Heap.get?_push_of_some _ e).tab (Heap.get?_push_of_some _ hP)) hnf λc' h' tk hx hge hlt _ hrec htb hown=>?_)
 have hg':=(hg.push _).extBut hx hgP
 have hx':Heap.ExtBut P s.heap h':=λb o hb' e=>hx b o hb' (Heap.get?_push_of_some _ e)
 have hge':s.heap.objs.size≤c':=Nat.le_trans (by rw[Heap.size_push];exact Nat.le_succ _) hge
 obtain⟨P',_,_,⟨oc,vc,hoc,hcc,_⟩,_⟩:=hown
 refine wpAny_bind (wpAny_builtinsFor hg' hbm hne0 (hx' _ _ hneP hbo) hcls hdict hdata ?_)
 refine wpAny_bind (wpAny_nsGet hg' ?_)
 cases hdoc:docOf body with
 | none=>exact wpAny_bind (wpAny_pure (wpAny_newObj_type (h c' _ .none h' tk hx' hge' hlt hrec ⟨oc,hoc,hcc⟩ htb.2) (by size_fits)))
 | some t=>exact wpAny_bind (wpAny_mkText (wpAny_newObj_type (h c' _ _ h' _ hx' hge' hlt hrec ⟨oc,hoc,hcc⟩ htb.2) (by size_fits)))
end
structure NestAt (W:Wd) (c P:Addr) (pos:Pos) (qual:Str):Prop where
 hd:∀h,W.G h→CodeHd h c P
 ne:mainGlobals≠P
 x:W.X P
 bat:∀h,W.G h→h.BuiltinsAt W.mg P
 tab:∀h,W.G h→∃ps,h.get? P=some (tabObj ps)∧TriplesOk ps.toList∧(codeAmong pos ps.toList=none∨∃cc,codeAmong pos ps.toList=some (.ref cc)∧h.CodeRec (.ref cc) qual∧zeF h cc∧¬W.X cc)
 grow:∀h h' ps cc,W.G h→h.get? P=some (tabObj ps)→codeAmong pos ps.toList=none→Heap.ExtBut P h h'→h'.get? P=some (tabObj (ps++#[rawInt pos.line,rawInt pos.col,.ref cc]))→h'.CodeRec (.ref cc) qual→zeF h' cc→h.objs.size≤cc→W.G h'
section
variable {W:Wd}{c:Cx}{o:Nat→Option Addr}{ρ:zc}{s:Shared}
theorem zio {cA P:Addr}{pos:Pos}{name qual:Str}{params:Arguments}{body:List Stmt}{scope:Scope}{clos:List (Str×Addr)}{i:Nat}{kc:Addr} (N:NestAt W cA P pos qual) (rl:Rel W c o ρ s) (hcode:c.env.code = .ref cA) (hq:qualnameIn c.env name name=qual)
  (hd1:params.defaults=[]) (hd2:params.kw_defaults=[]) (hann:annTrees params none c.env=[]) (hcl:closureFor scope c.env=pure clos) (hne:clos≠[]) (hi:i < c.no) (hn:c.ns[i]? = some name) (hρ:ρ[i]? = some none) (hk:c.env.kindOf name=some .cell) (hc:c.env.cells.lookup name=some kc)
  {Q:Flow→Shared→Prop}{E:Value→Shared→Prop}
  (K:∀f fd cc doc pm ctv s',fd=fnX name qual params body scope clos .none .none doc pm none (.ref cc) ctv→s'.heap.get? f=some {cls:=.type "function",data:=.func fd}→s'.heap.IsCell kc (some (.ref f))→s'.heap.CodeRec (.ref cc) qual→¬W.X cc→¬W.X f →
   Rel W c o ρ s'→Q .next s') :
  wpAny W.M c.A (exec (.FunctionDef name params body [] none [] scope none name pos) c.env) Q E s:=by
 rw[exec_def,hq,defaultsOf_eq,hd1,hd2,hann]
 refine wpAny_bind (wpAny_standAt (wpAny_bind (wpAny_holding ?_)))
 refine wpAny_bind (wpAny_pure ?_)
 refine wpAny_bind (wpAny_holding (wpAny_pure ?_))
 refine wpAny_holding ?_
 refine wpAny_bind (wpAny_pure ?_)
 have g:=rl.gd
 have fin:∀(s1:Shared) (f:Addr) (fd:FuncData) (cc:Addr) (doc pm ctv:Value),fd=fnX name qual params body scope clos .none .none doc pm none (.ref cc) ctv→s1.heap.get? f=some {cls:=.type "function",data:=.func fd}→s1.heap.CodeRec (.ref cc) qual →
   ¬W.X cc→¬W.X f→Stp W s s1→wpAny W.M c.A (do standAt pos;bindName c.env name (.ref f);pure Flow.next) Q E s1:=by
  intro s1 f fd cc doc pm ctv e1 e2 e3 e4 e5 x1
  have rl1:=rl.mono x1
  refine xE (rl1.cel name kc hc) λv0 hv0=>?_
  refine wpAny_bind (wpAny_standAt (wpAny_bind (wpAny_bindName (wpAny_storeName_cell rl.ok.kind hk hc hv0 λh' hn' hs=>wpAny_pure ?_))))
  refine xE rl1.loc λm hm=>?_
  have nfun:f≠kc:=by
   rintro rfl
   refine xEA hv0 λob h2 h3=>?_;clear hv0
   rw[e2]at h2;cases h2;cases h3
  have ncc:cc≠kc:=by
   rintro rfl
   refine xEA hv0 λob h2 h3=>?_;clear hv0
   refine zfx e3 λc2 o2 vs t q1 q2 q3 _=>?_;clear e3
   cases q1
   rw[h2]at q2;cases q2
   rw[h3]at q3;cases q3
  have locne:c.env.locals≠kc:=by
   rintro rfl
   refine xEA hv0 λo2 h2 h3=>?_;clear hv0
   refine zcb hm λo3 es ep h4 h5 _=>?_;clear hm;rw[h2]at h4;cases h4;rw[h3]at h5;cases h5
  have nseq:∀b ob,s1.heap.get? b=some ob→(∃xs n,ob.data = .seq xs n)→h'.get? b=some ob:=by
   rintro b ob e ⟨xs,n,hd⟩
   rw[hs.2 b (by rintro rfl;refine xEA hv0 λo2 h2 h3=>?_;clear hv0;rw[e]at h2;cases h2;rw[hd]at h3;cases h3)];exact e
  have tk:({s1 with heap:=h'}:Shared)={s1 with heap:=h',toks:=s1.toks}:=rfl
  refine K f fd cc doc pm ctv {s1 with heap:=h'} e1 ((hs.2 f nfun).trans e2) hn' ?_ e4 e5 ⟨rl.ok,?_,⟨m,hm.sameBut hs locne⟩,λx k e=>?_,λj x b h1 h2=>?_,λj a e=>?_,rl.inj⟩
  ·refine zbq e3 λc2 o2 vs t q1 q2 q3=>?_;clear e3
   cases q1
   exact⟨_,o2,vs,t,rfl,(hs.2 _ ncc).trans q2,q3⟩
  ·exact zcz rl1 (rl.ok.cnew i name kc hi hn hc) (zeg hv0) hs (Nat.le_refl _)
  ·by_cases hq:k=kc
   ·subst hq;exact⟨_,hn'⟩
   ·refine xE (rl1.cel x k e) λv hv=>?_;exact⟨v,hv.sameBut hs hq⟩
  ·have hj:j≠i:=by rintro rfl;rw[hρ]at h2;cases h2
   refine xEA (rl1.vars j x b h1 h2) λv hv hb=>?_
   refine⟨v,?_,?_⟩
   ·rcases hv with ⟨hky,m',hm',hu⟩ | ⟨hky,k2,hl,hu⟩
    ·exact .inl ⟨hky,m',hm'.sameBut hs locne,hu⟩
    ·refine .inr ⟨hky,k2,hl,hu.sameBut hs ?_⟩
     rintro rfl
     have e:=rl.ok.cinj x name k2 hl hc
     exact hj ((List.getElem?_inj (List.getElem?_eq_some_iff.mp h1).1 rl.ok.nd).mp (by rw[h1,hn,e]))
   ·have kr:∀(oo:Nat→Option Addr) b o,s1.heap.get? b=some o→(o.cls = .type "list"∧¬OX W oo b∧∃xs n,o.data = .seq xs n)∨(o.cls = .type "tuple"∧∃xs n,o.data = .seq xs n)→h'.get? b=some o:=by
     rintro oo b o e (⟨_,_,hd⟩ | ⟨_,hd⟩)<;>exact nseq b o e hd
    cases b with
    | fz d=>exact RV.to (kr _) (λ_ q=>.inl q) hb
    | mu xs=>obtain⟨a,vs,q1,q2,⟨n,q3⟩,q4⟩:=hb;exact⟨a,vs,q1,q2,⟨n,nseq _ _ q3 ⟨_,_,rfl⟩⟩,RVs.to (kr _) (λ_ q=>.inl q) q4⟩
  ·refine zmn (rl1.own j a e) λq1 vs n q3=>?_
   exact⟨q1,vs,n,nseq _ _ q3 ⟨_,_,rfl⟩⟩
 have notX:∀b:Addr,s.heap.objs.size≤b→¬W.X b:=λb hb q=>W.sy g.1 (W.xsy _ q) (by
  cases e:s.heap.get? b with
  | none=>rfl
  | some ob=>exact absurd (Heap.lt_size e) (Nat.not_lt.mpr hb))
 refine zdx (N.tab _ g.1) λps hP ht hcase=>?_
 rcases hcase with hnf | ⟨cc,hf,hrec,_,hcx⟩
 ·refine wpAny_with_toks (n:=s.toks) (Nat.le_refl _) (zla hcl hne rl.ok.glob (W.gl g.1) hcode (N.hd _ g.1) hP ht hnf N.ne (N.bat _ g.1) λc' ctv doc h' tk hx hge hlt hrec hco hP' htk=>?_)
  have hsz:s.heap.objs.size≤h'.objs.size:=Nat.le_trans hge (Nat.le_of_lt hlt)
  refine fin _ h'.objs.size _ c' doc _ ctv rfl (Heap.get?_push_size _ rfl) (hrec.push _) (notX _ hge) (notX _ hsz) ?_
  have gw:W.G h':=N.grow _ _ _ _ g.1 hP hnf hx hP' hrec hco hge
  refine⟨λb ob e n=>Heap.get?_push_of_some _ (hx b ob (λq=>n (q▸N.x)) e),W.keepAll gw λb ob e=>Heap.get?_push_of_some _ e,rfl,λ_ _ e=>e,g.2,htk⟩
 ·refine wpAny_with_toks (n:=s.toks) (Nat.le_refl _) (makeFunction_hit hcl rl.ok.glob (W.gl g.1) hcode (N.hd _ g.1) hP ht hf (N.bat _ g.1) λctv doc h' tk hx hge htk=>?_)
  refine fin _ h'.objs.size _ cc doc _ ctv rfl (Heap.get?_push_size _ rfl) ((hrec.keeps hx).push _) hcx (notX _ hge) ?_
  exact g.keeps (λb ob e=>Heap.get?_push_of_some _ (hx b ob e)) htk
end
end Mine.Internal
end

noncomputable section
open PySem PySem.Calls PyProof.Rows PySem.SeqAt PySem.W
namespace Mine.Internal
noncomputable def zfE:List Str:=["a","n","a_digits","inner"]
noncomputable def zgH:List (Str×NameKind):=[("a",.local),("n",.cell),("a_digits",.cell),("inner",.cell),("len",.globalImplicit)]
noncomputable def zdy:List (Str×NameKind):=[("x",.local),("L",.local),("R",.local),("mid",.local),("shift",.local),("upper",.local),("lower",.local),("a_digits",.free),("inner",.free),("n",.free)]
noncomputable def u25:T:=.bin .Mult (.list [.lit (.int 0)]) (.bin .FloorDiv (.bin .Sub (.bin .Add (.meth .bits (.var 0) []) (.var 1)) (.lit (.int 1))) (.var 1))
noncomputable def zbz (a n:Int):Int:=(Builtin.Int.intBits a+n - 1).fdiv n
noncomputable def i2d (K:Nat) (a n:Int):Option (List D) :=
 if zby (Builtin.Int.intBits a+n - 1) n=true∧0≤zbz a n∧zbz a n≤2 ^ 20 then
  if a=0 then some (List.replicate (zbz a n).toNat (.int 0)) else zdA K n a 0 (zbz a n) (List.replicate (zbz a n).toNat (.int 0))
 else none
theorem zif {α:Type} (d:α):∀k:Nat,(List.replicate k [d]).flatten=List.replicate k d
 | 0=>rfl
 | k+1=>by simp[List.replicate_succ,zif d k]
theorem ziz (m:Nat):zgc (List.replicate m (.int 0)):=λd hd=>⟨0,List.eq_of_mem_replicate hd⟩
theorem ziN {a b c:Str}{x y z:Addr} (h1:x≠y) (h2:x≠z) (h3:y≠z):∀u v k,List.lookup u [(a,x),(b,y),(c,z)]=some k→List.lookup v [(a,x),(b,y),(c,z)]=some k→u=v:=λu v k e1 e2=>by
 have m1:=mem_of_lookup e1
 have m2:=mem_of_lookup e2
 simp only[List.mem_cons,Prod.mk.injEq,List.not_mem_nil,or_false]at m1 m2
 rcases m1 with ⟨rfl,rfl⟩ | ⟨rfl,rfl⟩ | ⟨rfl,rfl⟩<;>rcases m2 with ⟨rfl,e⟩ | ⟨rfl,e⟩ | ⟨rfl,e⟩<;>first | rfl | exact absurd e h1 | exact absurd e h2 | exact absurd e h3 | exact absurd e.symm h1 | exact absurd e.symm h2 | exact absurd e.symm h3
section
variable {W:Wd}{F:Fns}{k:Nat}
theorem Stp.gd' {N:Pin} (hx:∀b,N.S b→¬W.X b) {s s':Shared} (x:Stp W s s') (p:N.P s.heap):Gd (W.add N) s':=⟨(zsx hx x p).g,x.bare⟩
theorem zfL {h:Heap}{c:Addr}{o:Obj} (e:h.get? c=some o):h.get? c≠none:=by rw[e];exact λq=>zl q.symm
theorem zcm {h h':Heap}{c:Addr}{v:Option Value} (x:h.IsCell c v) (k:∀o,h.get? c=some o→h'.get? c=some o):h'.IsCell c v:=x.elim λo y=>⟨o,k o y.1,y.2⟩
theorem zen {h:Heap}{c:Addr}{v:Option Value} (x:h.IsCell c v):h.get? c≠none:=x.elim λ_ y=>zfL y.1
theorem zgT {h h':Heap}{c:Addr}{q:Str} (x:h.CodeRec (.ref c) q) (k:∀o,h.get? c=some o→h'.get? c=some o):h'.CodeRec (.ref c) q :=
 x.elim λc' x=>x.elim λo x=>x.elim λvs x=>x.elim λt y=>⟨c',o,vs,t,y.1,Value.ref.inj y.1▸k o (by rw[Value.ref.inj y.1];exact y.2.1),y.2.2⟩
theorem zjD {h:Heap}{c:Addr}{q:Str} (x:h.CodeRec (.ref c) q):h.get? c≠none :=
 x.elim λc' x=>x.elim λo x=>x.elim λvs x=>x.elim λt y=>by rw[Value.ref.inj y.1];exact zfL y.2.1
noncomputable def zrr (f cc:Addr) (fo:Obj) (qual:Str) (c1 c2 c3:Addr) (v1 v2 v3:Value):Pin where
 P h:=h.get? f=some fo∧h.CodeRec (.ref cc) qual∧h.IsCell c1 (some v1)∧h.IsCell c2 (some v2)∧h.IsCell c3 (some v3)
 S b:=b=f∨b=cc∨b=c1∨b=c2∨b=c3
 keep:=λp k=>⟨k _ _ p.1 (.inl rfl),zgT p.2.1 λo g=>k _ _ g (.inr (.inl rfl)),zcm p.2.2.1 λo g=>k _ _ g (.inr (.inr (.inl rfl))),zcm p.2.2.2.1 λo g=>k _ _ g (.inr (.inr (.inr (.inl rfl)))),zcm p.2.2.2.2 λo g=>k _ _ g (.inr (.inr (.inr (.inr rfl))))⟩
 al:=λp q=>q.elim (λe=>e▸zfL p.1) λq=>q.elim (λe=>e▸zjD p.2.1) λq=>q.elim (λe=>e▸zen p.2.2.1) λq=>q.elim (λe=>e▸zen p.2.2.2.1) λe=>e▸zen p.2.2.2.2
structure Out25 (W:Wd) (x:Str) (a:Addr) (fd:FuncData) (cA P:Addr) (posI:Pos) (params:Arguments) (scopeI:Scope) (s1:Stmt) (bpre:List Stmt) (es1 es2 es3:List Expr) (p1 p2 p3 q1 q2 q3 r1 r2 r3 pa pi pr pr2:Pos) (qual:Str):Prop where
 D0:DefAt W x a fd [s1,.FunctionDef "inner" params (bpre++[.Expr (.Call (.Name "inner" p1) es1 [] q1) r1,.Expr (.Call (.Name "inner" p2) es2 [] q2) r2]) [] none [] scopeI none "inner" posI,
  .If (.Name "a" pa) [.Expr (.Call (.Name "inner" p3) es3 [] q3) r3] [] pi,.Return (some (.Name "a_digits" pr)) pr2] zfE 2
 code:fd.code = .ref cA
 N:NestAt W cA P posI qual
 q:∀L,qualnameIn (callEnvC fd L a) "inner" "inner" = qual
 d1:params.defaults=[]
 d2:params.kw_defaults=[]
 ann:∀L,annTrees params none (callEnvC fd L a)=[]
 no:fd.scope.names=zgH
 ni:scopeI.names=zdy
 co:scopeI.isCoroutine=false
 gen:scopeI.isGenerator=false
 kind:scopeI.kind = .function
 bind:∀clos doc pm cc ctv (vals:List Value),vals.length=3→bindArgs (fnX "inner" qual params (bpre++[.Expr (.Call (.Name "inner" p1) es1 [] q1) r1,.Expr (.Call (.Name "inner" p2) es2 [] q2) r2]) scopeI clos .none .none doc pm none cc ctv) ⟨vals,[]⟩=pure ((zfF.take 3).zip vals)
 ms:mSs {names:=zgH,ns:=zfE,no:=4} [.new 2 u25] [s1]=true
 mp:mSs {names:=zdy,ns:=zfF,no:=7} zgx bpre=true
 n1:ze es1=true
 m1:mEs {names:=zdy,ns:=zfF,no:=7} [.var 6,.var 1,.var 3] es1=true
 n2:ze es2=true
 m2:mEs {names:=zdy,ns:=zfF,no:=7} [.var 5,.var 3,.var 2] es2=true
 n3:ze es3=true
 m3:mEs {names:=zgH,ns:=zfE,no:=4} [.var 0,.lit (.int 0),.call 0 [.var 2]] es3=true
theorem zwE {n0 n:Int} (hc:zby (Builtin.Int.intBits n0+n - 1) n=true∧0≤zbz n0 n∧zbz n0 n≤2 ^ 20):exs F 0 [some (.fz (.int n0)),some (.fz (.int n)),none,none] [.new 2 u25]=some (.next,[some (.fz (.int n0)),some (.fz (.int n)),some (.mu (List.replicate (zbz n0 n).toNat (.int 0))),none]):=by
 let xs:List D:=List.replicate (zbz n0 n).toNat (.int 0)
 have hxi:zgc xs:=ziz _
 show exs F 0 _ _=some (.next,[some (.fz (.int n0)),some (.fz (.int n)),some (.mu xs),none])
 have hc1:=hc.1
 have hc2:=hc.2.1
 have hc3:=hc.2.2
 have e20:(2:Int) ^ 20=1048576:=rfl
 have hm:(zbz n0 n).toNat≤1048576:=by rw[e20]at hc3;lia
 unfold zbz at hc2 hc3 hm
 have fx:=zcP hxi
 have E:ev F [some (.fz (.int n0)),some (.fz (.int n)),none,none] u25=some (.list xs):=by
  simp only[u25,zaK,zas,zbG,zhl,zdS,zaJ,zL,Option.bind_some,zqx,zoB,zjp,zH,zlt,ztV,zls,zmb,if_pos hc1,zmr,zde,zqG,Bool.and_self,if_true]
  rw[if_pos ⟨hc2,hc3,by simpa using hm,by simp,by simp⟩,zif]
  rfl
 simp only[zkc,zcX,zoi]
 rw[E]
 simp only[Option.bind_some]
 rw[zea,if_pos (show(fre u25 && zg xs)=true from fx)]
 rfl
theorem zpT {f cc c1 c2 c3 l:Addr}{fdi:FuncData}{qual:Str}{v1 v2 v3:Value}{h:Heap}{us:Array Value} (hP:(zrr f cc {cls:=.type "function",data:=.func fdi} qual c1 c2 c3 v1 v2 v3).P h) (hl:h.PlainList l us):¬(zrr f cc {cls:=.type "function",data:=.func fdi} qual c1 c2 c3 v1 v2 v3).S l:=λq=>by
 refine zka hP λhgf hrec hca hcf hcn=>?_;clear hP
 refine xE hl λnn e=>?_;clear hl
 rcases q with q | q | q | q | q
 ·rw[← q,e]at hgf
  exact absurd (show Value.type "list" = Value.type "function" from congrArg Obj.cls (Option.some.inj hgf)) (by decide)
 ·refine zfx hrec λc9 o9 vs9 t9 z1 z2 z3 _=>?_;clear hrec
  cases z1
  rw[← q,e]at z2;cases z2;cases z3
 ·refine xEA hca λo9 h9 d9=>?_;clear hca;rw[← q,e]at h9;cases h9;cases d9
 ·refine xEA hcf λo9 h9 d9=>?_;clear hcf;rw[← q,e]at h9;cases h9;cases d9
 ·refine xEA hcn λo9 h9 d9=>?_;clear hcn;rw[← q,e]at h9;cases h9;cases d9
theorem zqv {x:Str}{a:Addr}{fd:FuncData}{cA P:Addr}{posI:Pos}{params:Arguments}{scopeI:Scope}{s1:Stmt}{bpre:List Stmt}{es1 es2 es3:List Expr}{p1 p2 p3 q1 q2 q3 r1 r2 r3 pa pi pr pr2:Pos}{qual:Str}
  (O:Out25 W x a fd cA P posI params scopeI s1 bpre es1 es2 es3 p1 p2 p3 q1 q2 q3 r1 r2 r3 pa pi pr pr2 qual) {f cc l c1 c2 c3:Addr}{n:Int}{tn:Tok}{doc pm ctv:Value} (lS:¬(W.Sy l∨(zrr f cc {cls:=.type "function",data:=.func (fnX "inner" qual params (bpre++[.Expr (.Call (.Name "inner" p1) es1 [] q1) r1,.Expr (.Call (.Name "inner" p2) es2 [] q2) r2]) scopeI [("n",c3),("inner",c2),("a_digits",c1)] .none .none doc pm none (.ref cc) ctv)} qual c1 c2 c3 (.ref l) (.ref f) (.int n tn)).S l)) (hA1:c3≠c2) (hA2:c3≠c1) (hA3:c2≠c1) :
  In25 (W.add (zrr f cc {cls:=.type "function",data:=.func (fnX "inner" qual params (bpre++[.Expr (.Call (.Name "inner" p1) es1 [] q1) r1,.Expr (.Call (.Name "inner" p2) es2 [] q2) r2]) scopeI [("n",c3),("inner",c2),("a_digits",c1)] .none .none doc pm none (.ref cc) ctv)} qual c1 c2 c3 (.ref l) (.ref f) (.int n tn))) f l c1 c2 c3 n tn (fnX "inner" qual params (bpre++[.Expr (.Call (.Name "inner" p1) es1 [] q1) r1,.Expr (.Call (.Name "inner" p2) es2 [] q2) r2]) scopeI [("n",c3),("inner",c2),("a_digits",c1)] .none .none doc pm none (.ref cc) ctv) bpre es1 es2 p1 p2 q1 q2 r1 r2:=by
 refine⟨⟨λh gg=>gg.2.1,rfl,rfl,rfl,λh gg=>gg.2.2.1,O.bind _ _ _ _ _,O.co,O.gen,O.kind,by decide,by decide,by decide,by decide,λy hy=>?_,λi y hi hy=>?_,λi y hi hy=>?_,ziN hA1 hA2 hA3⟩,
  rfl,rfl,rfl,λy kk e=>?_,λh gg=>gg.2.2.2.1,λh gg=>gg.2.2.2.2.1,λh gg=>gg.2.2.2.2.2,lS,?_,O.n1,?_,O.n2,?_⟩
 ·show y.2≠.cell
  rw[show(fnX "inner" qual params _ scopeI _ .none .none doc pm none (.ref cc) ctv).scope.names=zdy from O.ni]at hy
  simp only[zdy,List.mem_cons,List.not_mem_nil,or_false]at hy
  rcases hy with rfl | rfl | rfl | rfl | rfl | rfl | rfl | rfl | rfl | rfl<;>decide
 ·show scopeI.names.lookup y=_∧_
  rw[O.ni]
  match i,hy with
  | 0,hy=>cases hy;exact⟨rfl,rfl⟩
  | 1,hy=>cases hy;exact⟨rfl,rfl⟩
  | 2,hy=>cases hy;exact⟨rfl,rfl⟩
  | 3,hy=>cases hy;exact⟨rfl,rfl⟩
  | 4,hy=>cases hy;exact⟨rfl,rfl⟩
  | 5,hy=>cases hy;exact⟨rfl,rfl⟩
  | 6,hy=>cases hy;exact⟨rfl,rfl⟩
  | j+7,hy=>lia
 ·show scopeI.names.lookup y=_∧_
  rw[O.ni]
  match i,hy with
  | 7,hy=>cases hy;exact⟨rfl,rfl⟩
  | 8,hy=>cases hy;exact⟨rfl,rfl⟩
  | 9,hy=>cases hy;exact⟨rfl,rfl⟩
  | j+10,hy=>simp[zfF]at hy
  | 0,hy=>lia
  | 1,hy=>lia
  | 2,hy=>lia
  | 3,hy=>lia
  | 4,hy=>lia
  | 5,hy=>lia
  | 6,hy=>lia
 ·have m1:=mem_of_lookup e
  simp only[List.mem_cons,Prod.mk.injEq,List.not_mem_nil,or_false]at m1
  rcases m1 with ⟨rfl,rfl⟩ | ⟨rfl,rfl⟩ | ⟨rfl,rfl⟩
  ·exact⟨_,λh gg=>gg.2.2.2.2.2⟩
  ·exact⟨_,λh gg=>gg.2.2.2.2.1⟩
  ·exact⟨_,λh gg=>gg.2.2.2.1⟩
 ·show mSs {names:=scopeI.names,ns:=zfF,no:=7} zgx bpre=true
  rw[O.ni];exact O.mp
 ·show mEs {names:=scopeI.names,ns:=zfF,no:=7} _ es1=true
  rw[O.ni];exact O.m1
 ·show mEs {names:=scopeI.names,ns:=zfF,no:=7} _ es2=true
  rw[O.ni];exact O.m2
theorem zxc (Z:Snd W F k) (Z0:∀m,F 0 [.list (List.replicate m (.int 0))]=if m≤2 ^ 20 then some (.int m) else none) {x:Str}{a:Addr}{fd:FuncData}{cA P:Addr}{posI:Pos}{params:Arguments}{scopeI:Scope}{s1:Stmt}{bpre:List Stmt}{es1 es2 es3:List Expr}{p1 p2 p3 q1 q2 q3 r1 r2 r3 pa pi pr pr2:Pos}{qual:Str}
  (O:Out25 W x a fd cA P posI params scopeI s1 bpre es1 es2 es3 p1 p2 p3 q1 q2 q3 r1 r2 r3 pa pi pr pr2 qual) {n0 n:Int}{ys:List D} (hv:i2d k n0 n=some ys):zhh W (k+1) x [.int n0,.int n] (.list ys):=by
 refine xEA O.D0.obj λob hob hat=>?_
 refine⟨.ref a,O.D0.at_,⟨ob,fd,hob,hat⟩,λA s vs hr g ht r Q E kk=>?_⟩
 unfold i2d at hv
 have hc:zby (Builtin.Int.intBits n0+n - 1) n=true∧0≤zbz n0 n∧zbz n0 n≤2 ^ 20:=Decidable.byContradiction λq=>by rw[if_neg q]at hv;cases hv
 rw[if_pos hc]at hv
 have hno4:zjj fd.scope.names zfE=true:=by rw[O.no];decide
 refine zbk (nk:=2) O.D0 hno4 rfl rfl hr g ht r λc s1' e1 e2 e3 e4 e5 rl E'=>?_
 have fits:Fits c {names:=zgH,ns:=zfE,no:=4}:=⟨by rw[e2];exact O.D0.kind,by rw[e2];exact O.no,e3,e4⟩
 let xs:List D:=List.replicate (zbz n0 n).toNat (.int 0)
 have hxi:zgc xs:=ziz _
 have EX1:=zbL Z [.new 2 u25] _ c _ [s1] _ _ e1 fits O.ms (zwE hc)
 rw[show ∀b c d:Stmt,[s1,b,c,d]=[s1]++[b,c,d] from λ_ _ _=>rfl]
 refine zeq (wpAny_mono (EX1 _ _ rl E') (λfl s2 D=>?_) λ_ _ x=>x)
 obtain⟨o2,rl2,hf,_⟩:=D
 simp only[zeM]at hf
 subst hf
 have kd:∀y,c.env.kindOf y=zgH.lookup y:=λy=>by rw[e2];show fd.scope.names.lookup y=_;rw[O.no]
 have cells:c.env.cells=([("inner",s.heap.objs.size+1+1+1),("a_digits",s.heap.objs.size+1+1),("n",s.heap.objs.size+1)]:List (Str×Addr)):=by
  rw[e2];show cellsFrom _ fd.scope.names []=_;rw[O.no];rfl
 have lk:c.env.cells.lookup ("inner" : Str)=some (s.heap.objs.size+1+1+1)∧c.env.cells.lookup ("a_digits" : Str)=some (s.heap.objs.size+1+1)∧c.env.cells.lookup ("n" : Str)=some (s.heap.objs.size+1):=by
  rw[cells];exact⟨rfl,rfl,rfl⟩
 refine xAA lk λlki lka lkn=>?_;clear lk
 have hcl:closureFor scopeI c.env=pure ([("n",s.heap.objs.size+1),("inner",s.heap.objs.size+1+1+1),("a_digits",s.heap.objs.size+1+1)]:List (Str×Addr)):=by
  rw[zbA (λy hy=>?_)]
  ·rw[O.ni]
   simp only[zaQ,zdy]
   rw[lki,lka,lkn]
   rfl
  ·rw[O.ni]at hy
   rw[cells]
   simp only[zdy,List.mem_cons,Prod.mk.injEq,List.not_mem_nil,or_false,reduceCtorEq,and_false,false_or,and_true]at hy
   rcases hy with rfl | rfl | rfl<;>rfl
 refine wpAny_execs_cons (zio (i:=3) O.N rl2 (by rw[e2];exact O.code) (by rw[e2];exact O.q _) O.d1 O.d2 (by rw[e2];exact O.ann _) hcl (List.cons_ne_nil _ _) (by rw[e4];decide) (by rw[e3];rfl) rfl (by rw[kd];rfl) lki λf fdi cc doc pm ctv s3 efd hgf hcf hrec hccx hfx rl3=>?_)
 have vn:∃t,s3.heap.IsCell (s.heap.objs.size+1) (some (.int n t)):=by
  refine xEA (rl3.vars 1 "n" _ (by rw[e3];rfl) rfl) λv hv hb=>?_
  refine xE ((zi (h:=s3.heap) (X:=OX W o2)).mp hb) λt q1_=>?_;subst q1_
  rcases hv with ⟨hk,_⟩ | ⟨_,kc,hk,hc⟩
  ·rw[kd]at hk;cases hk
  ·rw[lkn]at hk;cases hk;exact⟨t,hc⟩
 have va:∃l us,o2 2=some l∧s3.heap.IsCell (s.heap.objs.size+1+1) (some (.ref l))∧s3.heap.PlainList l us.toArray∧RVs s3.heap (OX W o2) xs us:=by
  refine zcv (rl3.vars 2 "a_digits" _ (by rw[e3];rfl) rfl) λv hv l us q4_ h2 h3 h4=>?_;subst q4_
  rcases hv with ⟨hk,_⟩ | ⟨_,kc,hk,hc⟩
  ·rw[kd]at hk;cases hk
  ·rw[lka]at hk;cases hk;exact⟨l,us,h2,hc,h3,h4⟩
 refine xE vn λtn hcn=>?_;clear vn
 refine zar va λl us ho2 hca hpl hrl=>?_;clear va
 let Np:=zrr f cc {cls:=.type "function",data:=.func fdi} qual (s.heap.objs.size+1+1) (s.heap.objs.size+1+1+1) (s.heap.objs.size+1) (.ref l) (.ref f) (.int n tn)
 have hP:Np.P s3.heap:=⟨hgf,hrec,hca,hcf,hcn⟩
 have cellX:∀y kk,c.env.cells.lookup y=some kk→¬W.X kk:=λy kk e q=>by
  refine xE (rl3.cel y kk e) λv hv=>?_
  refine xEA hv λo9 h9 d9=>?_;clear hv
  exact(W.xcls rl3.gd.1 q h9).2.2 _ d9
 have hx:∀b,Np.S b→¬W.X b:=by
  rintro b (rfl | rfl | rfl | rfl | rfl)
  ·exact hfx
  ·exact hccx
  ·exact cellX _ _ lka
  ·exact cellX _ _ lki
  ·exact cellX _ _ lkn
 subst efd
 have lS:¬(W.Sy l∨Np.S l):=λq=>q.elim (λq=>W.sy rl3.ok.good q (rl3.own 2 l ho2).1) (zpT hP hpl)
 have hA1:s.heap.objs.size+1≠s.heap.objs.size+1+1+1:=(Nat.ne_of_lt (Nat.le_succ _))
 have hA2:s.heap.objs.size+1≠s.heap.objs.size+1+1:=(Nat.ne_of_lt (Nat.le_refl _))
 have hA3:s.heap.objs.size+1+1+1≠s.heap.objs.size+1+1:=(Nat.ne_of_gt (Nat.le_refl _))
 have I25:=zqv O (f:=f) (cc:=cc) (doc:=doc) (pm:=pm) (ctv:=ctv) (tn:=tn) lS hA1 hA2 hA3
 have fin:∀(o4:Nat→Option Addr) (s4:Shared),Rel W c o4 [some (.fz (.int n0)),some (.fz (.int n)),some (.mu ys),none] s4→zgc ys →
   wpAny W.M c.A (execs [.Return (some (.Name "a_digits" pr)) pr2] c.env) (λf s'=>Q (match f with | .ret v=>v | _=>.none) s') E' s4:=λo4 s4 rl4 hyi=>by
  have EV:Ev W .ba c [some (.fz (.int n0)),some (.fz (.int n)),some (.mu ys),none] (.Name "a_digits" pr) (.list ys):=zoI 2 (by rw[e3];rfl) rfl (zcP hyi)
  refine wpAny_mono (zaY (ss:=[]) (zfk (pos:=pr2) EV) nofun o4 s4 rl4 E') (λfl s5 D=>?_) λ_ _ x=>x
  obtain⟨o5,r5,⟨v5,rfl,hv5⟩,_⟩:=D
  have stp:=r5.step
  rw[e5]at stp hv5
  exact kk _ _ stp (hv5.weak λb q=>.inr q)
 have ET:EvT W c [some (.fz (.int n0)),some (.fz (.int n)),some (.mu xs),none] (.Name "a" pa) (n0 != 0) :=
  zhN (zer 0 (by rw[e3];rfl) rfl rfl) zkp λ_=>rfl
 refine wpAny_execs_cons (wpAny_If (ET o2 s3 rl3 _ _ λs4 x4=>?_))
 have rl4:=rl3.mono x4
 by_cases h0:n0=0
 ·rw[if_pos h0]at hv
  cases hv
  have:(n0 != 0)=false:=by simpa using h0
  rw[this]
  exact wpAny_execs_nil (fin o2 s4 rl4 hxi)
 ·rw[if_neg h0]at hv
  have:(n0 != 0)=true:=by simpa using h0
  rw[this]
  have hyi:=zbM hv hxi
  have e1':c.k=k+0:=by rw[e1];rfl
  have EL:=(zbj Z [.var 0,.lit (.int 0),.call 0 [.var 2]] _ c [some (.fz (.int n0)),some (.fz (.int n)),some (.mu xs),none] es3 [.int n0,.int 0,.int (zbz n0 n)] e1 fits O.n3 O.m3 (by
   simp only[zaJ,zL,zaK,zas,zaw,zqx,zoB,zyl,Option.bind_some]
   rw[Z0,if_pos (by have:=hc.2.2;have:(2:Int) ^ 20=((2 ^ 20:Nat):Int):=rfl;lia)]
   simp only[Option.bind_some]
   rw[show(((zbz n0 n).toNat:Nat):Int)=zbz n0 n from Int.toNat_of_nonneg hc.2.1])).1
  rw[if_pos rfl]
  refine wpAny_execs_cons (wpAny_Expr ?_ (by unfold interactive;rw[rl.ok.kind];rfl) rfl)
  refine wpAny_Call_NameR ?_
  refine wpAny_Name (wpAny_loadName_cell rl.ok.kind (by rw[kd];rfl) lki (show s4.heap.IsCell _ _ from zC rl3.gd.1 x4 hcf) ?_) (by decide)
  refine Calls.callWith_function (fd:=fnX "inner" qual params (bpre++[.Expr (.Call (.Name "inner" p1) es1 [] q1) r1,.Expr (.Call (.Name "inner" p2) es2 [] q2) r2]) scopeI
   [("n",s.heap.objs.size+1),("inner",s.heap.objs.size+1+1+1),("a_digits",s.heap.objs.size+1+1)] .none .none doc pm none (.ref cc) ctv) (o:={cls:=.type "function",data:=.func _}) (zaE O.n3 EL rl4 λvs s5 x5 rv=>⟨⟨?_,rfl⟩,?_⟩)
  ·exact x5.evo _ _ (x4.evo _ _ hgf hfx) hfx
  ·have x45:=x4.trans x5
   have gp:Gd (W.add Np) s5:=Stp.gd' hx x45 hP
   have pl5:=zz (rl3.ownX ho2) x45 hpl
   have rl5:=rl4.mono x5
   refine zhH I25 (λk'=>Z.add) k 0 _ _ _ xs ys hxi hv c.A s5 us vs (e1'▸rl.ok.room) gp (Nat.le_trans rl.ok.toks rl5.step.toks) pl5 (hxi.rvs hrl) rv _ _ λs6 us' x6 pl6 r6=>?_
   have rl6:=rl5.after (ys:=ys) (ρ':=[some (.fz (.int n0)),some (.fz (.int n)),some (.mu ys),none]) ho2 (zoo x6) pl6 r6 (zcP hyi) (rl3.own 2 l ho2).1 (λnm b h1 h2=>?_) λj b hj h2=>?_
   ·exact wpAny_execs_nil (fin _ s6 rl6 hyi)
   ·cases h2;exact⟨rfl,_,rfl,xs,rfl⟩
   ·match j,h2 with
    | 0,h2=>cases h2;exact⟨rfl,_,rfl,rfl⟩
    | 1,h2=>cases h2;exact⟨rfl,_,rfl,rfl⟩
    | 2,h2=>exact absurd rfl hj
    | 3,h2=>cases h2
    | j+4,h2=>simp at h2
end
end Mine.Internal
end

noncomputable section
open PySem PySem.Calls PyProof.Rows PySem.SeqAt PySem.W
namespace Mine.Internal
noncomputable def zhv:List Str:=["digits","n","inner"]
noncomputable def zjk:List (Str×NameKind):=[("digits",.cell),("n",.cell),("inner",.cell),("len",.globalImplicit)]
noncomputable def zcG:List (Str×NameKind):=[("L",.local),("R",.local),("mid",.local),("shift",.local),("digits",.free),("inner",.free),("n",.free)]
noncomputable def d2i (K:Nat) (ds:List D) (n:Int):Option Int:=if ds.length≤2 ^ 20 then(if ds.isEmpty then some 0 else zfJ K n ds 0 ds.length) else none
noncomputable def Pin.and (N:Pin) (al:Addr) (lo:Obj):Pin where
 P h:=N.P h∧h.get? al=some lo
 S b:=N.S b∨b=al
 keep:=λp k=>⟨N.keep p.1 λb o e q=>k b o e (.inl q),k _ _ p.2 (.inr rfl)⟩
 al:=λp q=>by
  rcases q with q | rfl
  ·exact N.al p.1 q
  ·rw[p.2];exact nofun
section
variable {W:Wd}{F:Fns}{k:Nat}
structure Out26 (W:Wd) (x:Str) (a:Addr) (fd:FuncData) (cA P:Addr) (posI:Pos) (params:Arguments) (scopeI:Scope) (bpre:List Stmt) (es1 es2 es3:List Expr) (esh:Expr) (p1 p2 p3 q1 q2 q3 r1 r2 r3 pa pi pz pr:Pos) (kz:Nat) (qual:Str):Prop where
 D0:DefAt W x a fd [.FunctionDef "inner" params (bpre++[.Return (some (.BinOp (.BinOp (.Call (.Name "inner" p1) es1 [] q1) .LShift esh r1) .Add (.Call (.Name "inner" p2) es2 [] q2) r2)) r3]) [] none [] scopeI none "inner" posI,
  .Return (some (.IfExp (.Name "digits" pa) (.Call (.Name "inner" p3) es3 [] q3) (.Constant (.int 0) kz pz) pi)) pr] zhv 2
 code:fd.code = .ref cA
 N:NestAt W cA P posI qual
 q:∀L,qualnameIn (callEnvC fd L a) "inner" "inner" = qual
 d1:params.defaults=[]
 d2:params.kw_defaults=[]
 ann:∀L,annTrees params none (callEnvC fd L a)=[]
 no:fd.scope.names=zjk
 ni:scopeI.names=zcG
 co:scopeI.isCoroutine=false
 gen:scopeI.isGenerator=false
 kind:scopeI.kind = .function
 bind:∀clos doc pm cc ctv (vals:List Value),vals.length=2→bindArgs (fnX "inner" qual params (bpre++[.Return (some (.BinOp (.BinOp (.Call (.Name "inner" p1) es1 [] q1) .LShift esh r1) .Add (.Call (.Name "inner" p2) es2 [] q2) r2)) r3]) scopeI clos .none .none doc pm none cc ctv) ⟨vals,[]⟩=pure ((zfe.take 2).zip vals)
 mp:mSs {names:=zcG,ns:=zfe,no:=4} zgw bpre=true
 n1:ze es1=true
 m1:mEs {names:=zcG,ns:=zfe,no:=4} [.var 2,.var 1] es1=true
 n2:ze es2=true
 m2:mEs {names:=zcG,ns:=zfe,no:=4} [.var 0,.var 2] es2=true
 mh:mE {names:=zcG,ns:=zfe,no:=4} (.var 3) esh=true
 n3:ze es3=true
 m3:mEs {names:=zjk,ns:=zhv,no:=3} [.lit (.int 0),.call 0 [.var 0]] es3=true
theorem zxb (Z:Snd W F k) (Z0:∀ds:List D,F 0 [.list ds]=if ds.length≤2 ^ 20 then some (.int ds.length) else none) {x:Str}{a:Addr}{fd:FuncData}{cA P:Addr}{posI:Pos}{params:Arguments}{scopeI:Scope}{bpre:List Stmt}{es1 es2 es3:List Expr}{esh:Expr}{p1 p2 p3 q1 q2 q3 r1 r2 r3 pa pi pz pr:Pos}{kz:Nat}{qual:Str}
  (O:Out26 W x a fd cA P posI params scopeI bpre es1 es2 es3 esh p1 p2 p3 q1 q2 q3 r1 r2 r3 pa pi pz pr kz qual) {n v:Int}{ds:List D} (hdi:zgc ds) (hv:d2i k ds n=some v):zhh W (k+1) x [.list ds,.int n] (.int v):=by
 refine xEA O.D0.obj λob hob hat=>?_
 refine⟨.ref a,O.D0.at_,⟨ob,fd,hob,hat⟩,λA s vs hr g ht r Q E kk=>?_⟩
 unfold d2i at hv
 have hc:ds.length≤2 ^ 20:=Decidable.byContradiction λq=>by rw[if_neg q]at hv;cases hv
 rw[if_pos hc]at hv
 have hno4:zjj fd.scope.names zhv=true:=by rw[O.no];decide
 refine zbk (nk:=1) O.D0 hno4 rfl rfl hr g ht r λc s2 e1 e2 e3 e4 e5 rl2 E'=>?_
 have fits:Fits c {names:=zjk,ns:=zhv,no:=3}:=⟨by rw[e2];exact O.D0.kind,by rw[e2];exact O.no,e3,e4⟩
 have rl2':Rel W c (λ_=>none) [some (.fz (.list ds)),some (.fz (.int n)),none] s2:=rl2
 have kd:∀y,c.env.kindOf y=zjk.lookup y:=λy=>by rw[e2];show fd.scope.names.lookup y=_;rw[O.no]
 have cells:c.env.cells=([("inner",s.heap.objs.size+1+1+1),("n",s.heap.objs.size+1+1),("digits",s.heap.objs.size+1)]:List (Str×Addr)):=by
  rw[e2];show cellsFrom _ fd.scope.names []=_;rw[O.no];rfl
 have lk:c.env.cells.lookup ("inner" : Str)=some (s.heap.objs.size+1+1+1)∧c.env.cells.lookup ("n" : Str)=some (s.heap.objs.size+1+1)∧c.env.cells.lookup ("digits" : Str)=some (s.heap.objs.size+1):=by
  rw[cells];exact⟨rfl,rfl,rfl⟩
 refine xAA lk λlki lkn lkd=>?_;clear lk
 have hcl:closureFor scopeI c.env=pure ([("n",s.heap.objs.size+1+1),("inner",s.heap.objs.size+1+1+1),("digits",s.heap.objs.size+1)]:List (Str×Addr)):=by
  rw[zbA (λy hy=>?_)]
  ·rw[O.ni]
   simp only[zaQ,zcG]
   rw[lki,lkn,lkd]
   rfl
  ·rw[O.ni]at hy
   rw[cells]
   simp only[zcG,List.mem_cons,Prod.mk.injEq,List.not_mem_nil,or_false,reduceCtorEq,and_false,false_or,and_true]at hy
   rcases hy with rfl | rfl | rfl<;>rfl
 refine wpAny_execs_cons (zio (i:=2) O.N rl2' (by rw[e2];exact O.code) (by rw[e2];exact O.q _) O.d1 O.d2 (by rw[e2];exact O.ann _) hcl (List.cons_ne_nil _ _) (by rw[e4];decide) (by rw[e3];rfl) rfl (by rw[kd];rfl) lki λf fdi cc doc pm ctv s3 efd hgf hcf hrec hccx hfx rl3=>?_)
 have vn:∃t,s3.heap.IsCell (s.heap.objs.size+1+1) (some (.int n t)):=by
  refine xEA (rl3.vars 1 "n" _ (by rw[e3];rfl) rfl) λv hv hb=>?_
  refine xE ((zi (h:=s3.heap) (X:=OX W λ_=>none)).mp hb) λt q1_=>?_;subst q1_
  rcases hv with ⟨hk,_⟩ | ⟨_,kc,hk,hc⟩
  ·rw[kd]at hk;cases hk
  ·rw[lkn]at hk;cases hk;exact⟨t,hc⟩
 have va:∃l us nn,s3.heap.IsCell (s.heap.objs.size+1) (some (.ref l))∧s3.heap.get? l=some {cls:=.type "list",data:=.seq us.toArray nn}∧¬W.X l∧RVs s3.heap W.X ds us:=by
  refine xEA (rl3.vars 0 "digits" _ (by rw[e3];rfl) rfl) λv hv hb=>?_
  obtain⟨l,us,rfl,⟨nn,h3⟩,h4,h5⟩:=(zy (h:=s3.heap) (X:=OX W λ_=>none)).mp hb
  rcases hv with ⟨hk,_⟩ | ⟨_,kc,hk,hc⟩
  ·rw[kd]at hk;cases hk
  ·rw[lkd]at hk;cases hk;exact⟨l,us,nn,hc,h3,λq=>h4 (.inl q),hdi.rvs h5⟩
 refine xE vn λtn hcn=>?_;clear vn
 refine zbr va λl us nn hca hpl hlx hrl=>?_;clear va
 let Np:=(zrr f cc {cls:=.type "function",data:=.func fdi} qual (s.heap.objs.size+1) (s.heap.objs.size+1+1+1) (s.heap.objs.size+1+1) (.ref l) (.ref f) (.int n tn)).and l {cls:=.type "list",data:=.seq us.toArray nn}
 have hP:Np.P s3.heap:=⟨⟨hgf,hrec,hca,hcf,hcn⟩,hpl⟩
 have cellX:∀y kk,c.env.cells.lookup y=some kk→¬W.X kk:=λy kk e q=>by
  refine xE (rl3.cel y kk e) λv hv=>?_
  refine xEA hv λo9 h9 d9=>?_;clear hv
  exact(W.xcls rl3.gd.1 q h9).2.2 _ d9
 have hx:∀b,Np.S b→¬W.X b:=by
  rintro b ((rfl | rfl | rfl | rfl | rfl) | rfl)
  ·exact hfx
  ·exact hccx
  ·exact cellX _ _ lkd
  ·exact cellX _ _ lki
  ·exact cellX _ _ lkn
  ·exact hlx
 subst efd
 have hA1:s.heap.objs.size+1+1≠s.heap.objs.size+1+1+1:=(Nat.ne_of_lt (Nat.le_refl _))
 have hA2:s.heap.objs.size+1+1≠s.heap.objs.size+1:=(Nat.ne_of_gt (Nat.le_refl _))
 have hA3:s.heap.objs.size+1+1+1≠s.heap.objs.size+1:=(Nat.ne_of_gt (Nat.le_succ _))
 have I26:In26 (W.add Np) f (s.heap.objs.size+1) (s.heap.objs.size+1+1+1) (s.heap.objs.size+1+1) n tn ds (.ref l) (fnX "inner" qual params (bpre++[.Return (some (.BinOp (.BinOp (.Call (.Name "inner" p1) es1 [] q1) .LShift esh r1) .Add (.Call (.Name "inner" p2) es2 [] q2) r2)) r3]) scopeI
   [("n",s.heap.objs.size+1+1),("inner",s.heap.objs.size+1+1+1),("digits",s.heap.objs.size+1)] .none .none doc pm none (.ref cc) ctv) bpre es1 es2 esh p1 p2 q1 q2 r1 r2 r3:=by
  refine⟨⟨λh gg=>gg.2.1.1,rfl,rfl,rfl,λh gg=>gg.2.1.2.1,O.bind _ _ _ _ _,O.co,O.gen,O.kind,by decide,by decide,by decide,by decide,λy hy=>?_,λi y hi hy=>?_,λi y hi hy=>?_,ziN hA1 hA2 hA3⟩,
   rfl,rfl,rfl,λy kk e=>?_,λh gg=>gg.2.1.2.2.1,λh gg=>?_,λh gg=>gg.2.1.2.2.2.1,λh gg=>gg.2.1.2.2.2.2,?_,O.n1,?_,O.n2,?_,?_⟩
  ·show y.2≠.cell
   rw[show(fnX "inner" qual params _ scopeI _ .none .none doc pm none (.ref cc) ctv).scope.names=zcG from O.ni]at hy
   simp only[zcG,List.mem_cons,List.not_mem_nil,or_false]at hy
   rcases hy with rfl | rfl | rfl | rfl | rfl | rfl | rfl<;>decide
  ·show scopeI.names.lookup y=_∧_
   rw[O.ni]
   match i,hy with
   | 0,hy=>cases hy;exact⟨rfl,rfl⟩
   | 1,hy=>cases hy;exact⟨rfl,rfl⟩
   | 2,hy=>cases hy;exact⟨rfl,rfl⟩
   | 3,hy=>cases hy;exact⟨rfl,rfl⟩
   | j+4,hy=>lia
  ·show scopeI.names.lookup y=_∧_
   rw[O.ni]
   match i,hy with
   | 4,hy=>cases hy;exact⟨rfl,rfl⟩
   | 5,hy=>cases hy;exact⟨rfl,rfl⟩
   | 6,hy=>cases hy;exact⟨rfl,rfl⟩
   | j+7,hy=>simp[zfe]at hy
   | 0,hy=>lia
   | 1,hy=>lia
   | 2,hy=>lia
   | 3,hy=>lia
  ·have m1:=mem_of_lookup e
   simp only[List.mem_cons,Prod.mk.injEq,List.not_mem_nil,or_false]at m1
   rcases m1 with ⟨rfl,rfl⟩ | ⟨rfl,rfl⟩ | ⟨rfl,rfl⟩
   ·exact⟨_,λh gg=>gg.2.1.2.2.2.2⟩
   ·exact⟨_,λh gg=>gg.2.1.2.2.2.1⟩
   ·exact⟨_,λh gg=>gg.2.1.2.2.1⟩
  ·exact zy.mpr ⟨l,us,rfl,⟨nn,gg.2.2⟩,hlx,hdi.rvs hrl⟩
  ·show mSs {names:=scopeI.names,ns:=zfe,no:=4} zgw bpre=true
   rw[O.ni];exact O.mp
  ·show mEs {names:=scopeI.names,ns:=zfe,no:=4} _ es1=true
   rw[O.ni];exact O.m1
  ·show mEs {names:=scopeI.names,ns:=zfe,no:=4} _ es2=true
   rw[O.ni];exact O.m2
  ·show mE {names:=scopeI.names,ns:=zfe,no:=4} _ esh=true
   rw[O.ni];exact O.mh
 have ET:EvT W c [some (.fz (.list ds)),some (.fz (.int n)),none] (.Name "digits" pa) (!ds.isEmpty) :=
  zhN (zlH 0 (by rw[e3];rfl) rfl) (zko (by simp only[td_l];rw[if_pos hc])) λ_=>rfl
 refine wpAny_execs_cons (wpAny_Return_some (wpAny_IfExp (ET _ s3 rl3 _ _ λs4 x4=>?_)))
 have rl4:=rl3.mono x4
 have done:∀(s5:Shared) (r:Value),Stp W s4 s5→(∃t,r = .int v t)→Q r s5:=λs5 r x5 hr=>by
  have stp:=rl4.step.trans x5
  rw[e5]at stp
  exact kk _ _ stp (zi.mpr hr)
 cases hds:ds.isEmpty with
 | true =>
  rw[hds,if_pos rfl]at hv
  cases hv
  exact wpAny_Constant_int (done _ _ rl4.gd.toks ⟨_,rfl⟩)
 | false =>
  rw[hds]at hv
  simp only[Bool.false_eq_true,if_false]at hv
  have EL:=(zbj Z [.lit (.int 0),.call 0 [.var 0]] _ c [some (.fz (.list ds)),some (.fz (.int n)),none] es3 [.int 0,.int ds.length] e1 fits O.n3 O.m3 (by
   simp only[zaJ,zL,zaK,zas,zaw,zoB,Option.bind_some]
   rw[Z0,if_pos hc]
   rfl)).1
  simp only[Bool.not_false,if_true]
  refine wpAny_Call_NameR ?_
  refine wpAny_Name (wpAny_loadName_cell rl4.ok.kind (by rw[kd];rfl) lki (show s4.heap.IsCell _ _ from zC rl3.gd.1 x4 hcf) ?_) (by decide)
  refine Calls.callWith_function (fd:=fnX "inner" qual params (bpre++[.Return (some (.BinOp (.BinOp (.Call (.Name "inner" p1) es1 [] q1) .LShift esh r1) .Add (.Call (.Name "inner" p2) es2 [] q2) r2)) r3]) scopeI
   [("n",s.heap.objs.size+1+1),("inner",s.heap.objs.size+1+1+1),("digits",s.heap.objs.size+1)] .none .none doc pm none (.ref cc) ctv) (o:={cls:=.type "function",data:=.func _}) (zaE O.n3 EL rl4 λvs s5 x5 rv=>⟨⟨?_,rfl⟩,?_⟩)
  ·exact x5.evo _ _ (x4.evo _ _ hgf hfx) hfx
  ·have x45:=x4.trans x5
   have gp:Gd (W.add Np) s5:=Stp.gd' hx x45 hP
   have rl5:=rl4.mono x5
   have e1':c.k=k+0:=by rw[e1];rfl
   exact zhG I26 (λk'=>Z.add) k 0 _ _ v hv c.A s5 vs (e1'▸rl4.ok.room) gp (Nat.le_trans rl4.ok.toks rl5.step.toks) rv _ _ λr s6 x6 r6=>done s6 r (x5.trans (zoo x6)) (zi.mp r6)
end
end Mine.Internal
end

noncomputable section
open PySem PySem.Calls PyProof.Rows PySem.SeqAt PySem.W
namespace Mine.Internal
theorem zil {β:Type}{c:Prop} [i:Decidable c] {a b y:β} (h:(if c then a else b)=y):a=y∨b=y:=by
 cases i with
 | isTrue _=>exact .inl h
 | isFalse _=>exact .inr h
theorem ziD {o:Outcome}{s s':Shared}{f:PySem.Flow} (h:finish o s = .halt (.done f) s'):o = .done f∧s'=s:=by
 unfold finish at h
 rcases zil h with h | h
 ·cases h
 ·cases h;exact⟨rfl,rfl⟩
noncomputable def ztR (x:Step):Bool:=match x with
 | .halt o _=>(match o with
  | .done _=>true
  | _=>false)
 | _=>false
theorem zaM {P:Prop}{x:Step}{f:PySem.Flow}{s':Shared} (h:x = .halt (.done f) s') (e:ztR x=false):P:=by rw[h]at e;cases e
theorem zlu {den:Code→Sem PySem.Fin}{p:Program}{w:World}{s s':Shared}{t:Thread}{f:PySem.Flow} (h:step den p w s t = .halt (.done f) s'):s'=s∧through t=true:=by
 obtain⟨heap,gens,drawn,toks,os⟩:=s
 obtain⟨cur,code,pos,stack⟩:=t
 cases cur with
 | pure a =>
  cases a with
  | again c=>exact zaM h rfl
  | done g =>
   cases stack with
   | nil=>exact⟨(ziD h).2,rfl⟩
   | cons fr rest=>cases fr<;>exact zaM h rfl
 | raise e =>
  cases stack with
  | nil=>exact(nomatch (ziD h).1)
  | cons fr rest=>cases fr<;>exact zaM h rfl
 | finish e=>rcases zil h with h | h<;>exact zaM h rfl
 | load a _ k=>delta step at h;dsimp only at h;revert h;cases heap.get? a<;>exact λh=>zaM h rfl
 | update a _ g k=>rcases zil h with h | h<;>exact zaM h rfl
 | choose src n k=>rcases zil h with h | h<;>exact zaM h rfl
 | genState g k=>delta step at h;dsimp only at h;revert h;cases gens[g]?<;>exact λh=>zaM h rfl
 | resume g r l k =>
  delta step at h;dsimp only at h;revert h
  cases gens[g]? with
  | none=>exact λh=>zaM h rfl
  | some x =>
   cases x with
   | fresh c =>
    cases r with
    | send v=>cases v<;>exact λh=>zaM h rfl
    | throw e=>exact λh=>zaM h rfl
   | _=>exact λh=>zaM h rfl
 | «yield» v g0 l kk =>
  delta step at h;dsimp only at h;revert h
  cases splitAtGen stack with
  | none=>exact λh=>zaM h rfl
  | some x=>obtain⟨_,⟨_,_,_,_⟩,_⟩:=x;exact λh=>zaM h rfl
 | _=>exact zaM h rfl
theorem zix {p:Program}{w:World}:∀(n:Nat) (s:Shared) (t:Thread) (s'':Shared) (f:PySem.Flow),s.asleep→(∀k s₁ t₁,runN (denote table) p w k s t = .running s₁ t₁→t₁.calm=true)→runN (denote table) p w n s t = .halted (.done f) s'' →
  (∃m t₁,schedN (denote table) p w m (.single s t) = .running (.single s'' t₁)∧through t₁=true)∧s''.heap.life=s.heap.life
 | 0,s,t,s'',f,_,_,h=>by simp[runN]at h
 | n+1,s,t,s'',f,hz,hc,h=>by
  unfold runN at h
  cases hs:step (denote table) p w s t with
  | halt o s' =>
   rw[hs]at h
   cases h
   refine xA (zlu hs) λq0_ ht=>?_;subst q0_
   exact⟨⟨0,t,rfl,ht⟩,rfl⟩
  | go s' t' =>
   rw[hs]at h
   have hl:=step_life (denote table) p w s s' t t' hs
   obtain⟨⟨m,t₁,hm,ht⟩,hl'⟩:=zix n s' t' s'' f (Shared.asleep_of_life hl hz) (λk s₁ t₁ e=>hc (k+1) s₁ t₁ (by unfold runN;rw[hs];exact e)) h
   have e:sstep (denote table) p w (.single s t) = .go (.single s' t'):=by
    rcases sstep_single (denote table) p w s t (hc 0 s t rfl) hz with e | e
    ·rw[e,hs];rfl
    ·rw[hs]at e;cases e
   exact⟨⟨m+1,t₁,by simp only[schedN,e];exact hm,ht⟩,hl'.trans hl⟩
theorem zlm:leftWithCleanup #[]=false:=by decide +kernel
theorem zmH {p:Program}{w:World}{s₀:Shared}{t:Sem PySem.Fin}{R:Shared→Prop} (hz:s₀.asleep)
  (h:wpAny (model p w) callerA t (λfin s'=>fin = .done (.ret .none)∧R s'∧s'.gens = #[]) (λ_ _=>False) s₀) :
  ∃s₁,(∃n t₁,schedN (denote table) p w n (.single s₀ ⟨t,.builtin "claim.caller" {},default,[]⟩) = .running (.single s₁ t₁)∧through t₁=true)∧s₁.heap.life=s₀.heap.life∧s₁.gens = #[]∧R s₁:=by
 have h2:wpAny (model p w) callerA t (λfin s'=>∃f,fin = .done f∧((λ(r:Result) s'=>r = .ok (.ret .none)∧R s'∧s'.gens = #[]) (.ok f) s'∧leftWithCleanup s'.gens=false)) (λe s'=>(λ(r:Result) s'=>r = .ok (.ret .none)∧R s'∧s'.gens = #[]) (.error e) s'∧leftWithCleanup s'.gens=false) s₀ :=
  wpAny_mono h (λfin s' ⟨e,r,g⟩=>⟨_,e,⟨rfl,r,g⟩,by rw[g];exact zlm⟩) λ_ _ x=>x.elim
 obtain⟨n,r,s',hn,rfl,hR,hg⟩:=(wp_iff_halts (M:=model p w) t (λr s'=>r = .ok (.ret .none)∧R s'∧s'.gens = #[]) default s₀).mp
  (wp_of_wpAny_done (R:=λr s'=>(r = .ok (.ret .none)∧R s'∧s'.gens = #[])∧leftWithCleanup s'.gens=false) caller_in h2 default)
 refine zdx (runNI_real _ _ _ hn (outcomeOf_ends _)) λs'' h1 hf hc=>?_
 refine xA (zix n s₀ _ s'' _ hz hc h1) λa b=>?_
 have e:=Shared.eq_of_forget_eq hf hg
 subst e
 exact⟨s'',a,b,hg,hR⟩
end Mine.Internal
end

noncomputable section
open PySem PySem.Calls PyProof.Rows PySem.SeqAt PySem.W
set_option maxRecDepth 100000
namespace Mine.Internal
theorem zgX (P:Params):(boot_heap P).isNs mainGlobals=true:=by kernel_rfl
theorem zbX (P:Params):(boot_heap P).isNs builtinsNs=true:=by kernel_rfl
theorem zgW (P:Params):(boot_heap P).isNs cStatics=true:=by kernel_rfl
theorem zgV (P:Params):(boot_heap P).bltView=bltViewBooted:=by kernel_rfl
theorem znT (P:Params):(boot_heap P).accountedOkI []=true:=by kernel_rfl
theorem zlX (P:Params):(boot_heap P).nsKeys mainGlobals=startupNames:=by kernel_rfl
theorem zfV (P:Params):(boot_heap P).nsKeys cStatics=[]:=by kernel_rfl
theorem zlY (P:Params):((boot_heap P).nsMap mainGlobals "__builtins__" = some (.ref 4))∧((boot_heap P).get? 4=some {cls:=.type "module",dict:=some builtinsNs,data:=.plain}):=⟨by kernel_rfl,by kernel_rfl⟩
theorem zgY (P:Params):(boot_heap P).life.registered=[]∧(boot_heap P).life.counting=false:=⟨by kernel_rfl,by kernel_rfl⟩
theorem zmI:boot_toks=181:=by kernel_rfl
end Mine.Internal
end

noncomputable section
set_option backward.match.sparseCases false
open PySem PySem.Calls PyProof.Rows PySem.SeqAt PySem.W
namespace Mine.Internal
noncomputable def DM:List (Int×Value)→List (Int×List Nat)→Prop
 | [],[]=>True
 | (k,v)::r,(k',y)::r'=>k=k'∧(∃t,v = .str (sv y) t)∧DM r r'
 | _,_=>False
theorem DM.keys:∀{a:List (Int×Value)}{b:List (Int×List Nat)},DM a b→a.map (·.1)=b.map (·.1)
 | [],[],_=>rfl
 | (k,v)::r,(k',y)::r',h=>by simp only[List.map_cons,DM.keys h.2.2,h.1]
 | [],_::_,h=>h.elim
 | _::_,[],h=>h.elim
theorem DM.append:∀{a c:List (Int×Value)}{b d:List (Int×List Nat)},DM a b→DM c d→DM (a++c) (b++d)
 | [],c,[],d,_,h=>h
 | (k,v)::r,c,(k',y)::r',d,h,h'=>⟨h.1,h.2.1,DM.append h.2.2 h'⟩
 | [],_,_::_,_,h,_=>h.elim
 | _::_,_,[],_,h,_=>h.elim
theorem DM.len {a:List (Int×Value)}{b:List (Int×List Nat)} (h:DM a b):a.length=b.length:=by
 have:=congrArg List.length h.keys;simpa using this
section
variable {prog:Program}{w:World}{A:Around}{E:Value→Shared→Prop}
noncomputable def zaZ (prog:Program) (w:World) (h:Heap) (d:Addr) (L:List (Int×List Nat)):Prop:=∃kvs,h.DictOf (intKind prog w) d kvs∧DM kvs L
noncomputable def zvc (prog:Program) (w:World) (q:Sem Value×Sem Value) (p:Int×List Nat):Prop :=
 (∀(A:Around) (s:Shared) (Q E:Value→Shared→Prop),Q (.int p.1 s.toks) {s with toks:=s.toks+1}→wpAny (model prog w) A q.1 Q E s) ∧
 (∀(A:Around) (s:Shared) (Q E:Value→Shared→Prop),Q (.str (sv p.2) s.toks) {s with toks:=s.toks+1}→wpAny (model prog w) A q.2 Q E s)
noncomputable def zU (prog:Program) (w:World):List (Sem Value×Sem Value)→List (Int×List Nat)→Prop
 | [],[]=>True
 | q::r,p::r'=>zvc prog w q p∧zU prog w r r'
 | _,_=>False
theorem zU.len:∀{a:List (Sem Value×Sem Value)}{b:List (Int×List Nat)},zU prog w a b→a.length=b.length
 | [],[],_=>rfl
 | _::_,_::_,h=>by rw[List.length_cons,List.length_cons,zU.len h.2]
 | [],_::_,h=>h.elim
 | _::_,[],h=>h.elim
theorem zgm {kvs:List (Int×Value)}{k:Int}{v:Value} (h:k ∉ kvs.map (·.1)):stored kvs k v=kvs++[(k,v)]:=by
 have:¬(kvs.any λx=>decide (x.1=k))=true:=by
  rw[List.any_eq_true];rintro⟨x,hx,he⟩
  exact h (List.mem_map.mpr ⟨x,hx,of_decide_eq_true he⟩)
 rw[stored,if_neg this]
theorem zeY {d:Addr}:∀(run:List (Sem Value×Sem Value)) (R accL:List (Int×List Nat)) (s:Shared) (Q:PUnit→Shared→Prop),zU prog w run R→zaZ prog w s.heap d accL→((accL++R).map (·.1)).Nodup→(accL++R).length≤sizeLine →
  (∀h' tk,zaZ prog w h' d (accL++R)→Heap.SameBut d s.heap h'→Q PUnit.unit {s with heap:=h',toks:=tk}) →
  wpAny (model prog w) A (forIn run PUnit.unit λ(p:Sem Value×Sem Value) (_:PUnit)=>(do let kv ← p.1;let vv ← holding [kv] p.2;holding [kv,vv] (dictSet d kv vv);pure (ForInStep.yield PUnit.unit):Sem (ForInStep PUnit))) Q E s
 | [],[],accL,s,Q,_,hd,_,_,hQ=>by
  rw[List.forIn_nil]
  exact wpAny_pure (by simpa using hQ s.heap s.toks (by simpa using hd) (Heap.SameBut.refl _ _))
 | q::run,p::R,accL,s,Q,hp,hd,hn,hz,hQ=>by
  refine xEA hd λkvs hm hdm=>?_;clear hd
  rw[List.forIn_cons]
  have hfresh:p.1 ∉ kvs.map (·.1):=by
   rw[hdm.keys]
   rw[List.map_append,List.map_cons,List.nodup_append]at hn
   exact λq=>hn.2.2 _ q _ List.mem_cons_self rfl
  have hlen:=hdm.len
  rw[List.length_append,List.length_cons]at hz
  refine wpAny_bind (wpAny_bind (hp.1.1 _ _ _ _ (wpAny_bind (wpAny_holding (hp.1.2 _ _ _ _ (wpAny_bind (wpAny_holding (wpAny_dictSet_pairs (k:=p.1) (hsz:=(Nat.le_trans (Nat.le_trans (Nat.le_of_eq hlen) (Nat.le_add_right _ _)) hz)) (intKind_is prog w p.1 s.toks) hm λh₁ hm₁ hs₁=>wpAny_pure ?_))))))))
  rw[zgm hfresh]at hm₁
  refine zeY run R (accL++[p]) _ Q hp.2 ⟨_,hm₁,hdm.append (show DM [(p.1,_)] [p] from⟨rfl,⟨_,rfl⟩,trivial⟩)⟩ (by simpa using hn) (by simp only[List.length_append,List.length_cons,List.length_nil];lia) λh' tk hd' hs'=>?_
  exact hQ h' tk (by simpa using hd') (hs₁.trans hs')
 | [],_::_,_,_,_,h,_,_,_,_=>h.elim
 | _::_,[],_,_,_,h,_,_,_,_=>h.elim
theorem zdw:∀(run:List (Sem Value×Sem Value)) (R:List (Int×List Nat)) (s:Shared) (Q:List (Value×Value)→Shared→Prop),zU prog w run R →
  (∀vs kvs tk,Carries (intKind prog w) vs kvs→DM kvs R→Q vs {s with toks:=tk})→wpAny (model prog w) A (evalPairs run) Q E s
 | [],[],s,Q,_,h=>evalPairs_nil (h [] [] s.toks trivial trivial)
 | (a,b)::run,p::R,s,Q,hp,h=>evalPairs_cons (hp.1.1 _ _ _ _ (hp.1.2 _ _ _ _ (zdw run R _ _ hp.2 λvs kvs tk hc hd =>
   h _ ((p.1,.str (sv p.2) (s.toks+1))::kvs) tk ⟨intKind_is prog w p.1 s.toks,rfl,hc⟩ ⟨rfl,⟨_,rfl⟩,hd⟩)))
 | [],_::_,_,_,h,_=>h.elim
 | _::_,[],_,_,h,_=>h.elim
theorem zon {run:List (Sem Value×Sem Value)}{R:List (Int×List Nat)}{s:Shared}{Q:Addr→Shared→Prop} (hp:zU prog w run R) (hn:(R.map (·.1)).Nodup) (hz:R.length≤17)
  (hQ:∀h' tk,zaZ prog w h' s.heap.objs.size R→(∀b o,s.heap.get? b=some o→h'.get? b=some o)→Q s.heap.objs.size {s with heap:=h',toks:=tk}):wpAny (model prog w) A (subDict run) Q E s:=by
 have hz':R.length≤sizeLine:=Nat.le_trans hz (by decide)
 have hs0:(s.heap.push {cls:=.type "dict",data:=.dict #[]}).DictOf (intKind prog w) s.heap.objs.size []:=Heap.DictOf.new _
 have old:∀h',Heap.SameBut s.heap.objs.size (s.heap.push {cls:=.type "dict",data:=.dict #[]}) h'→∀b o,s.heap.get? b=some o→h'.get? b=some o:=λh' hs b o e =>
  (hs.2 b (Nat.ne_of_lt (Heap.lt_size e))).trans (Heap.get?_push_of_some _ e)
 unfold subDict
 refine wpAny_bind (wpAny_alloc (wpAny_bind (wpAny_holding ?_)))
 by_cases hl:run.length≤15
 ·rw[if_pos hl]
  refine wpAny_bind (zdw run R _ _ hp λvs kvs tk hc hd=>?_)
  refine wpAny_holding ?_
  have e1:=hd.len
  refine wpAny_bind (wpAny_storeAll (knd:=intKind prog w) vs kvs [] _ _ hc hs0 (by simp only[List.length_nil];exact Nat.le_trans (Nat.le_trans (Nat.le_of_eq (Nat.add_comm _ _)) (Nat.le_of_eq e1)) hz') λh' hm' hs'=>wpAny_pure (wpAny_pure ?_))
  rw[merged_nil_of_nodup kvs (by rw[hd.keys];exact hn)]at hm'
  exact hQ h' _ ⟨kvs,hm',hd⟩ (old h' hs')
 ·rw[if_neg hl]
  refine wpAny_bind (wpAny_rule ?_)
  refine wpAny_bind (zeY run R [] _ _ hp ⟨[],hs0,trivial⟩ (by simpa using hn) (by simpa using hz') λh' tk hd' hs'=>wpAny_pure (wpAny_pure ?_))
  exact hQ h' tk (by simpa using hd') (old h' hs')
theorem zkL {d:Addr}{kvs:List (Int×Value)}{k:Int}{key v:Value}{s:Shared}{Q:Unit→Shared→Prop} (hkey:(intKind prog w).is k key=true) (hm:s.heap.DictOf (intKind prog w) d kvs) (hf:k ∉ kvs.map (·.1)) (hsz:kvs.length≤sizeLine)
  (hQ:∀h',h'.DictOf (intKind prog w) d (kvs++[(k,v)])→Heap.SameBut d s.heap h'→Q () {s with heap:=h'}):wpAny (model prog w) A (dictPut d ((intKind prog w).hash k) key v) Q E s:=by
 refine zdP hm λo es ep ho hc hd hk hp hn=>?_;clear hm
 have hes:es.size≤sizeLine:=by
  have e1:=hp.length
  have e2:es.toList.length=es.size:=by simp
  exact Nat.le_trans (Nat.le_of_eq e1) hsz
 unfold dictPut
 refine wpAny_bind (wpAny_dictFind_of hkey ho hd hk ?_)
 have hidx:(es.findIdx? λe=>(intKind prog w).is k e.key)=kvs.findIdx? λkv=>decide (kv.1=k):=by
  rw[← hp.findIdx k];obtain⟨l⟩:=es;simp
 have hnone:(es.findIdx? λe=>(intKind prog w).is k e.key)=none:=by
  rw[hidx,List.findIdx?_eq_none_iff]
  intro x hx
  exact decide_eq_false λe=>hf (List.mem_map.mpr ⟨x,hx,e⟩)
 rw[hnone]
 refine wpAny_updateDictKeys (hz:=hes) ho hd (hQ _ ⟨_,_,ep+1,Heap.get?_update_self _ ho (Obj.isFreed_of_dict (Obj.data_mapDictKeys hd _)),hc.mapDictKeys _,Obj.data_mapDictKeys hd _,hk.push hkey _,?_,?_⟩ (Heap.SameBut.update ..))
 ·have:=hp.append hkey ((intKind prog w).hash k) v
  obtain⟨l⟩:=es
  simpa using this
 ·rw[List.map_append,List.nodup_append]
  refine⟨hn,by simp,?_⟩
  intro a ha b hb
  simp only[List.map_cons,List.map_nil,List.mem_singleton]at hb
  subst hb
  exact λe=>hf (e▸ha)
theorem znk {d o:Addr}{La Lb:List (Int×List Nat)}{s:Shared}{Q:Unit→Shared→Prop} (hdo:d≠o) (hoS:(o == sysModules)=false) (hA:La≠[]) (hd:zaZ prog w s.heap d La) (ho:zaZ prog w s.heap o Lb) (hn:((La++Lb).map (·.1)).Nodup) (hz:(La++Lb).length≤sizeLine)
  (hQ:∀h',zaZ prog w h' d (La++Lb)→Heap.SameBut d s.heap h'→Q () {s with heap:=h'}):wpAny (model prog w) A (mergeMapping d (.ref o) false) Q E s:=by
 refine xEA hd λkvs hd1 dm1=>?_;clear hd
 refine xEA ho λmore ho1 dm2=>?_;clear ho
 refine zdP (id hd1) λod esd epd hod hcd hdd hkd hpd hnd=>?_
 refine zdP (id ho1) λoo eso epo hoo hco hdo' hko hpo hno=>?_
 have hlen:more.length=eso.size:=by rw[← hpo.length];simp
 have hne:esd.isEmpty=false:=by
  cases hq:esd.isEmpty with
  | false=>rfl
  | true =>
   have h0:esd = #[]:=Array.isEmpty_iff.mp hq
   have:=hpd.length
   rw[h0]at this
   have h1:kvs=[]:=List.length_eq_zero_iff.mp (by simpa using this.symm)
   subst h1
   have:=dm1.len
   exact absurd (List.length_eq_zero_iff.mp this.symm) hA
 unfold mergeMapping
 refine wpAny_bind (wpAny_isInstance (T:="dict") ho1.typeIs F.sub_dict_dict ?_)
 rw[if_pos rfl]
 refine wpAny_bind (wpAny_specialOf ho1.typeIs F.slot_dict_iter.lookup (wpAny_bind (wpAny_pure ?_)))
 rw[show(some (Value.builtin "dict.__iter__") == some (Value.builtin "dict.__iter__"))=true from by decide]
 dsimp only
 rw[if_neg (by rw[hoS];exact Bool.false_ne_true)]
 refine wpAny_bind (wpAny_dictEntries hod hdd ?_)
 rw[hne]
 rw[if_neg Bool.false_ne_true]
 refine wpAny_bind (wpAny_dictEntries hoo hdo' ?_)
 refine wpAny_bind (wpAny_dictEpoch hoo hdo' ?_)
 have hks:((kvs++more).map (·.1)).Nodup:=by rw[List.map_append,dm1.keys,dm2.keys,← List.map_append];exact hn
 have hzz:kvs.length+more.length≤sizeLine:=by rw[dm1.len,dm2.len,← List.length_append];exact hz
 refine wpAny_bind (wpAny_forIn_list _
  (λrest _ s'=>∃h' i,s'={s with heap:=h'}∧rest=List.range' i (eso.size - i)∧i≤eso.size∧h'.DictOf (intKind prog w) d (kvs++more.take i)∧h'.get? o=some oo∧Heap.SameBut d s.heap h')
  _ ?_ ?_ _ _ ⟨s.heap,0,rfl,by rw[List.range_eq_range'];simp,Nat.zero_le _,by simpa using hd1,hoo,Heap.SameBut.refl _ _⟩)
 ·rintro x rest b s' ⟨h',i,rfl,hr,hi,hd',hoo',hs'⟩
  have hlt:i < eso.size:=by
   rcases Nat.lt_or_ge i eso.size with h | h
   ·exact h
   ·rw[Nat.sub_eq_zero_of_le h]at hr;simp at hr
  obtain⟨rfl,hrest⟩:x=i∧rest=List.range' (i+1) (eso.size - (i+1)):=by
   have e:eso.size - i=(eso.size - (i+1))+1:=by lia
   rw[e,List.range'_succ]at hr
   injection hr with h1 h2
   exact⟨h1,h2⟩
  refine wpAny_bind (wpAny_dictEntries hoo' hdo' ?_)
  rw[Array.getElem?_eq_getElem hlt]
  obtain⟨kv,hkv⟩:∃kv,more[x]? = some kv:=⟨more[x]'(by rw[hlen];exact hlt),List.getElem?_eq_getElem _⟩
  obtain⟨k,v⟩:=kv
  refine xA (hpo.get? (e:=eso[x]) (by simp[hlt]) hkv) λhkey hval=>?_
  refine xEA (hko eso[x] (Array.getElem_mem hlt)) λk' hkey' hhash=>?_
  obtain rfl:k'=k:=(intKind prog w).inj _ _ _ hkey' hkey
  show wpAny _ _ (holding [eso[x].key,eso[x].val] (dictPut d eso[x].hash eso[x].key eso[x].val) >>= _) _ _ _
  rw[hhash,hval]
  have htk:more.take (x+1)=more.take x++[(k',v)]:=by rw[List.take_add_one,hkv];rfl
  have hfr:k' ∉ (kvs++more.take x).map (·.1):=by
   have h2:(kvs++more).map (·.1)=(kvs++more.take x).map (·.1)++(more.drop x).map (·.1):=by
    rw[← List.map_append,List.append_assoc,List.take_append_drop]
   rw[h2,List.nodup_append]at hks
   refine λq=>hks.2.2 _ q _ ?_ rfl
   refine List.mem_map.mpr ⟨(k',v),?_,rfl⟩
   exact List.mem_iff_getElem?.mpr ⟨0,by rw[List.getElem?_drop,Nat.add_zero];exact hkv⟩
  have hsz2:(kvs++more.take x).length≤sizeLine:=by
   rw[List.length_append,List.length_take];lia
  refine wpAny_bind (wpAny_holding (zkL hkey hd' hfr hsz2 λh'' hd'' hs''=>?_))
  have hoo'':h''.get? o=some oo:=(hs''.2 o (Ne.symm hdo)).trans hoo'
  refine wpAny_bind (wpAny_dictEpoch hoo'' hdo' ?_)
  rw[if_neg (by simp)]
  exact wpAny_pure ⟨h'',x+1,rfl,hrest,hlt,by rw[htk,← List.append_assoc];exact hd'',hoo'',hs'.trans hs''⟩
 ·rintro b s' ⟨h',i,rfl,hr,hi,hd',hoo',hs'⟩
  have hin:i=eso.size:=by
   rcases Nat.lt_or_ge i eso.size with h | h
   ·have e:eso.size - i=(eso.size - (i+1))+1:=by lia
    rw[e,List.range'_succ]at hr;exact nomatch hr
   ·exact Nat.le_antisymm hi h
  rw[hin,← hlen,List.take_length]at hd'
  exact wpAny_pure (hQ h' ⟨_,hd',dm1.append dm2⟩ hs')
theorem zaZ.keeps {h h':Heap}{d:Addr}{L:List (Int×List Nat)} (x:zaZ prog w h d L) (k:∀b o,h.get? b=some o→h'.get? b=some o):zaZ prog w h' d L :=
 x.elim λkvs x=>⟨kvs,x.1.elim λo y=>y.elim λes y=>y.elim λep y=>⟨o,es,ep,k _ _ y.1,y.2⟩,x.2⟩
theorem zaZ.lt {h:Heap}{d:Addr}{L:List (Int×List Nat)} (x:zaZ prog w h d L):d < h.objs.size :=
 x.elim λkvs x=>x.1.elim λo y=>y.elim λes y=>y.elim λep y=>Heap.lt_size y.1
noncomputable def ziC (run:List (Sem Value×Sem Value)) (main:Option Addr):Sem (Option Addr) :=
 if run.isEmpty=true then pure main
 else
  match main with
  | none=>do
   let __do_lift ← subDict run
   pure (some __do_lift)
  | some d=>do
   let sub ← holding [Value.ref d] (subDict run)
   (holding [Value.ref d,Value.ref sub] (mergeMapping d (Value.ref sub) false)).onRaise λx=>do
    let _ ← holding [Value.ref d,x] (runValue (Code.builtin "proto.let_go" {}))
    pure ()
   pure (some d)
noncomputable def DSt (prog:Program) (w:World) (s0:Shared) (main:Option Addr) (La:List (Int×List Nat)) (s':Shared):Prop :=
 ∃h' tk,s'={s0 with heap:=h',toks:=tk}∧s0.heap.objs.size≤h'.objs.size∧(∀b o,s0.heap.get? b=some o→h'.get? b=some o)∧((main=none∧La=[])∨∃d,main=some d∧La≠[]∧zaZ prog w h' d La∧s0.heap.objs.size≤d)
theorem ziB {s0 s:Shared}{main:Option Addr}{run:List (Sem Value×Sem Value)}{La R:List (Int×List Nat)}{Q:Option Addr→Shared→Prop} (h:DSt prog w s0 main La s) (hp:zU prog w run R) (hl:R.length≤17) (hn:((La++R).map (·.1)).Nodup) (hz:(La++R).length≤sizeLine) (hs0:sysModules < s0.heap.objs.size)
  (hQ:∀m' s',DSt prog w s0 m' (La++R) s'→Q m' s'):wpAny (model prog w) A (ziC run main) Q E s:=by
 refine zar h λh' tk q2_ hsz hk hc=>?_;clear h;subst q2_
 unfold ziC
 cases hr:run.isEmpty with
 | true =>
  have:R=[]:=by
   have:=hp.len
   rw[List.isEmpty_iff.mp hr]at this
   exact List.length_eq_zero_iff.mp this.symm
  subst this
  rw[if_pos rfl]
  exact wpAny_pure (hQ _ _ ⟨h',tk,rfl,hsz,hk,by simpa using hc⟩)
 | false =>
  have hR:R≠[]:=by
   rintro rfl
   have:=hp.len
   have:run=[]:=List.length_eq_zero_iff.mp this
   subst this
   cases hr
  rw[if_neg Bool.false_ne_true]
  have hnR:(R.map (·.1)).Nodup:=by
   rw[List.map_append,List.nodup_append]at hn;exact hn.2.1
  rcases hc with ⟨rfl,rfl⟩ | ⟨d,rfl,hA,hd,hds⟩
  ·refine wpAny_bind (zon hp hnR hl λh2 tk2 hd2 hk2=>wpAny_pure (hQ _ _ ⟨h2,tk2,rfl,Nat.le_trans hsz (Nat.le_of_lt hd2.lt),λb o e=>hk2 b o (hk b o e),.inr ⟨_,rfl,hR,hd2,hsz⟩⟩))
  ·dsimp only
   refine wpAny_bind (wpAny_holding (zon hp hnR hl λh2 tk2 hd2 hk2=>?_))
   dsimp only at hd2 hk2
   have hlt:=hd.lt
   refine wpAny_bind (wpAny_onRaise (wpAny_holding (znk (Nat.ne_of_lt hlt) ?_ hA (hd.keeps hk2) hd2 hn hz λh3 hd3 hs3=>wpAny_pure (hQ _ _ ⟨h3,tk2,rfl,?_,λb o e=>?_,.inr ⟨d,rfl,?_,hd3,hds⟩⟩))))
   ·exact beq_eq_false_iff_ne.mpr (Nat.ne_of_gt (Nat.lt_of_lt_of_le hs0 hsz))
   ·rw[hs3.1];exact Nat.le_trans hsz (Nat.le_of_lt hd2.lt)
   ·exact(hs3.2 b (Nat.ne_of_lt (Nat.lt_of_lt_of_le (Heap.lt_size e) hds))).trans (hk2 b o (hk b o e))
   ·intro q;exact hA (List.append_eq_nil_iff.mp q).1
theorem zqU {Q:Value→Shared→Prop}{env:Env}{keys:List (Option Expr)}{values:List Expr}{pos:Pos}{run:List (Sem Value×Sem Value)}{R:List (Int×List Nat)}{s:Shared}
  (hshape:(evalEachOpt keys env).zip ((evalEach values env).map λv=>do let x ← v;standAt pos;pure x)=run.map λp=>(some p.1,p.2)) (hp:zU prog w run R) (h0:R≠[]) (hn:(R.map (·.1)).Nodup) (hz:R.length≤sizeLine) (hs0:sysModules < s.heap.objs.size)
  (hQ:∀d h' tk,zaZ prog w h' d R→s.heap.objs.size≤d→(∀b o,s.heap.get? b=some o→h'.get? b=some o)→Q (.ref d) {s with heap:=h',toks:=tk}):wpAny (model prog w) A (eval (.Dict keys values pos) env) Q E s:=by
 rw[arm_eval_Dict,hshape]
 refine wpAny_bind (wpAny_standAt ?_)
 unfold dictDisplay
 dsimp only
 refine wpAny_bind (wpAny_forIn_list _
  (λrest st s'=>∃(ri:List (Sem Value×Sem Value)) (La Rr T:List (Int×List Nat)),rest=ri.map (λp=>(some p.1,p.2))∧zU prog w ri T∧zU prog w st.2 Rr∧La++Rr++T=R∧Rr.length < 17∧DSt prog w s st.1 La s')
  _ ?_ ?_ _ _ ⟨run,[],[],R,rfl,hp,(show zU prog w [] [] from trivial),rfl,by decide,s.heap,s.toks,rfl,Nat.le_refl _,λ_ _ e=>e,.inl ⟨rfl,rfl⟩⟩)
 ·rintro x rest ⟨main,st⟩ s' ⟨ri,La,Rr,T,hr,h1,h2,h3,h4,h5⟩
  cases ri with
  | nil=>cases hr
  | cons q ri =>
   cases T with
   | nil=>exact h1.elim
   | cons t T =>
    refine xA (List.cons.inj hr) λhx hr'=>?_
    subst hx
    have happ:∀{a:List (Sem Value×Sem Value)}{b:List (Int×List Nat)},zU prog w a b→zU prog w (a++[q]) (b++[t]):=by
     intro a
     induction a with
     | nil=>intro b hb;cases b with
      | nil=>exact⟨h1.1,trivial⟩
      | cons _ _=>exact hb.elim
     | cons y a ih=>intro b hb;cases b with
      | nil=>exact hb.elim
      | cons z b=>exact⟨hb.1,ih hb.2⟩
    have h2':=happ h2
    have hlen:=h2'.len
    have hRall:La++(Rr++[t])++T=R:=by rw[← h3];simp
    dsimp only
    by_cases h17:((st++[(q.1,q.2)]).length == 17)=true
    ·rw[if_pos h17]
     refine wpAny_bind (show wpAny (model prog w) A (ziC (st++[(q.1,q.2)]) main) _ E s' from ziB (R:=Rr++[t]) h5 h2' ?_ ?_ ?_ hs0 λm' s2 hs2=>wpAny_pure ⟨ri,La++(Rr++[t]),[],T,hr',h1.2,trivial,by simpa using hRall,by decide,hs2⟩)
     ·rw[List.length_append];simp only[List.length_cons,List.length_nil];exact h4
     ·rw[← hRall,List.map_append,List.nodup_append]at hn;exact hn.1
     ·rw[← hRall,List.length_append]at hz;exact Nat.le_trans (Nat.le_add_right _ _) hz
    ·rw[if_neg h17]
     refine wpAny_pure ⟨ri,La,Rr++[t],T,hr',h1.2,h2',hRall,?_,h5⟩
     have h6:(Rr++[t]).length≠17:=λe=>h17 (by rw[hlen,e];rfl)
     rw[List.length_append]at h6 ⊢
     simp only[List.length_cons,List.length_nil]at h6 ⊢
     lia
 ·rintro⟨main,st⟩ s' ⟨ri,La,Rr,T,hr,h1,h2,h3,h4,h5⟩
  cases ri with
  | cons q ri=>cases hr
  | nil =>
   cases T with
   | cons t T=>exact h1.elim
   | nil =>
    rw[List.append_nil]at h3
    subst h3
    dsimp only
    refine wpAny_bind (show wpAny (model prog w) A (ziC st main) _ E s' from ziB h5 h2 (Nat.le_of_lt h4) hn hz hs0 λm' s2 hs2=>?_)
    refine zar hs2 λh' tk q2_ q1 q2 q3=>?_;clear hs2;subst q2_
    rcases q3 with ⟨_,q3⟩ | ⟨d,rfl,_,q4,q5⟩
    ·exact absurd q3 h0
    ·exact wpAny_pure (hQ d h' tk q4 q5 q2)
end
end Mine.Internal
end

noncomputable section
open PySem PySem.Calls PyProof.Rows PySem.SeqAt PySem.W
namespace Mine.Internal
noncomputable def KB (Pl:Addr) (h h':Heap):Prop:=∀b o,b≠Pl→b≠mainGlobals→h.get? b=some o→h'.get? b=some o
theorem KB.refl {Pl:Addr}{h:Heap}:KB Pl h h:=λ_ _ _ _ e=>e
theorem KB.trans {Pl:Addr}{a b c:Heap} (x:KB Pl a b) (y:KB Pl b c):KB Pl a c:=λk o h1 h2 e=>y k o h1 h2 (x k o h1 h2 e)
theorem KB.of {Pl:Addr}{h h':Heap} (k:∀b o,h.get? b=some o→h'.get? b=some o):KB Pl h h':=λb o _ _ e=>k b o e
noncomputable abbrev zdI (ns:List (Str×Value)) (mg0:Str→Option Value):Str→Option Value:=λx=>(ns.lookup x).or (mg0 x)
theorem zgM (ns:List (Str×Value)) (mg0:Str→Option Value) (n:Str) (v:Value):(λx=>if x=n then some v else zdI ns mg0 x)=zdI ((n,v)::ns) mg0:=by
 funext x
 unfold zdI
 rw[List.lookup_cons]
 by_cases h:x=n
 ·subst h;simp
 ·have:(x == n)=false:=by simpa using h
  rw[if_neg h,this]
structure MS (c Pl:Addr) (sB:Shared) (mg0:Str→Option Value) (ns:List (Str×Value)) (ps:Array Value) (fs:List (Heap→Prop)) (s:Shared):Prop where
 main:s.heap.Main (zdI ns mg0) c Pl ps
 keep:KB Pl sB.heap s.heap
 gens:s.gens = #[]
 os:s.os=sB.os
 hold:∀P∈fs,P s.heap
 closed:∀P∈fs,∀h h',KB Pl h h'→P h→P h'
inductive DefdP (Pl:Addr) (name:Str) (params:Arguments) (body:List Stmt) (scope:Scope) (a P:Addr) (h:Heap):Prop
 | mk (h0:mainGlobals < Pl) (h1:Pl < a) (c':Addr) (doc pm:Value) (h2:Pl < c') (h3:Pl < P) (h4:h.get? a=some {cls:=.type "function",data:=.func (defFd name name params body scope mainGlobals .none .none none pm (.ref c') doc)})
  (h5:h.CodeRec (.ref c') name) (h6:CodeHd h c' P) (h7:h.get? P=some (tabObj #[])) (h8:c'≠P):DefdP Pl name params body scope a P h
theorem DefdP.kb {Pl:Addr}{name:Str}{params:Arguments}{body:List Stmt}{scope:Scope}{a P:Addr}{h h':Heap} (k:KB Pl h h') (x:DefdP Pl name params body scope a P h):DefdP Pl name params body scope a P h':=by
 obtain⟨h0,h1,c',doc,pm,h2,h3,h4,⟨c2,o2,vs,t,e2,g2,r2⟩,⟨o,vs2,file,tf,flags,tg,inF,text,tt,e,r⟩,h7,h8⟩:=x
 have g:∀b,Pl < b→b≠Pl∧b≠mainGlobals:=λb hb=>⟨Nat.ne_of_gt hb,Nat.ne_of_gt (Nat.lt_trans h0 hb)⟩
 cases e2
 exact⟨h0,h1,c',doc,pm,h2,h3,k _ _ (g _ h1).1 (g _ h1).2 h4,⟨_,o2,vs,t,rfl,k _ _ (g _ h2).1 (g _ h2).2 g2,r2⟩,
  ⟨o,vs2,file,tf,flags,tg,inF,text,tt,k _ _ (g _ h2).1 (g _ h2).2 e,r⟩,k _ _ (g _ h3).1 (g _ h3).2 h7,h8⟩
noncomputable def zrA (Pl:Addr) (name:Str) (params:Arguments) (body:List Stmt) (scope:Scope) (a:Addr) (h:Heap):Prop:=∃P,DefdP Pl name params body scope a P h
theorem zrA.kb {Pl:Addr}{name:Str}{params:Arguments}{body:List Stmt}{scope:Scope}{a:Addr}{h h':Heap} (k:KB Pl h h') (x:zrA Pl name params body scope a h):zrA Pl name params body scope a h':=let ⟨P,x⟩:=x;⟨P,x.kb k⟩
theorem DefdP.ne {Pl:Addr}{name:Str}{params:Arguments}{body:List Stmt}{scope:Scope}{a P P':Addr}{h:Heap} (x:DefdP Pl name params body scope a P h) (e:h.get? P'=none):P≠P':=by
 obtain⟨_,_,_,_,_,_,_,_,_,_,h7,_⟩:=x
 rintro rfl
 rw[h7]at e;cases e
section
variable {prog:Program}{w:World}{c Pl F:Addr}{sB s:Shared}{mg0:Str→Option Value}{ns:List (Str×Value)}{ps:Array Value}{fs:List (Heap→Prop)}{A:Around}{E:Value→Shared→Prop}
theorem MS.cons {P:Heap→Prop}{s s':Shared}{ns':List (Str×Value)}{ps':Array Value} (M:MS c Pl sB mg0 ns ps fs s) (hm:s'.heap.Main (zdI ns' mg0) c Pl ps') (k:KB Pl s.heap s'.heap) (hg:s'.gens=s.gens) (ho:s'.os=s.os) (hP:P s'.heap) (hc:∀h h',KB Pl h h'→P h→P h') :
  MS c Pl sB mg0 ns' ps' (P::fs) s' :=
 ⟨hm,M.keep.trans k,hg.trans M.gens,ho.trans M.os,λQ hQ=>by
  rcases List.mem_cons.mp hQ with rfl | hQ
  ·exact hP
  ·exact M.closed Q hQ _ _ k (M.hold Q hQ),λQ hQ=>by
  rcases List.mem_cons.mp hQ with rfl | hQ
  ·exact hc
  ·exact M.closed Q hQ⟩
theorem ztG {name:Str}{params:Arguments}{body:List Stmt}{scope:Scope}{pos:Pos}{Q:PySem.Flow→Shared→Prop} (M:MS c Pl sB mg0 ns ps fs s)
  (hkw:params.kwonlyargs=[]) (hkd:params.kw_defaults=[]) (hdf:params.defaults=[]) (hann0:annTrees params none (mainEnv prog c F)=[])
  (hfree:∀x∈scope.names,x.2≠.free) (hloc:prog.main.scope.names.lookup name=some .local)
  (hq:qualnameIn {scope:=prog.main.scope,locals:=mainGlobals,globals:=mainGlobals,cells:=[]} name name=name)
  (hnb:name≠"__builtins__") (hmod:prog.main.scope.kind = .module) (hnf:codeAmong pos ps.toList=none)
  (K:∀a P c' s',s.heap.get? P=none→MS c Pl sB mg0 ((name,.ref a)::ns) (ps++#[rawInt pos.line,rawInt pos.col,.ref c']) (DefdP Pl name params body scope a P::fs) s'→Q .next s') :
  wpAny (model prog w) A (exec (.FunctionDef name params body [] none [] scope none name pos) (mainEnv prog c F)) Q E s:=by
 refine wpAny_defStmt0N hkw hkd (by rw[hdf];exact λ_ h=>nomatch h) hann0 hfree hloc hq M.main (λa c' doc dV vs h' tk ha hm' hfo hvs hdef hcd htb keep=>?_) hnb hmod hnf
 have hPl:Pl < s.heap.objs.size:=M.main.code.lt.2
 have hvs0:vs=[]:=by
  rw[hdf]at hvs
  cases vs with
  | nil=>rfl
  | cons _ _=>exact hvs.elim
 subst hvs0
 have hdV:dV = .none:=by
  rcases hdef with h | h
  ·exact h.2
  ·exact absurd rfl h.1
 subst hdV
 refine zdx htb λP' hP' hic hta=>?_;clear htb
 refine K a P' c' _ ?_ (M.cons (by rw[← zgM];exact hm') (λb o h1 h2 e=>keep b o h1 h2 e) rfl rfl ?_ λh h' k x=>x.kb k)
 ·cases e:s.heap.get? P' with
  | none=>rfl
  | some o=>exact absurd (Heap.lt_size e) (Nat.not_lt.mpr hP')
 have hne:c'≠P':=by obtain⟨_,_,_,_,_,_,_,_,_,_,_,_,_,_,_,_,_,_,_,_,q⟩:=hic;exact q
 exact⟨M.main.low.2,Nat.lt_of_lt_of_le hPl ha,c',doc,_,Nat.lt_of_lt_of_le hPl hcd.1,Nat.lt_of_lt_of_le hPl hP',hfo,hcd.2,CodeHd.of hic hta,hta.2,hne⟩
theorem zjq {h h':Heap}{mg:Str→Option Value}{x:Str}{v:Value} (hm:h.Main mg c Pl ps) (hn:h'.Ns mainGlobals (λy=>if y=x then some v else mg y)) (hs:Heap.SameBut mainGlobals h h') (hx:x≠"__builtins__"):h'.Main (λy=>if y=x then some v else mg y) c Pl ps:=by
 refine zbT hm.bmod λbm o hbm hne0 hneG hneP hbo hrest=>?_
 exact⟨hn,hm.code.sameBut hs (Nat.ne_of_gt hm.low.1) (Nat.ne_of_gt hm.low.2),hm.low,⟨bm,o,by simp only[Ne.symm hx,if_false];exact hbm,hne0,hneG,hneP,(hs.2 _ hneG).trans hbo,hrest⟩⟩
theorem zfg {h h':Heap}{mg:Str→Option Value} (hm:h.Main mg c Pl ps) (k:∀b o,h.get? b=some o→h'.get? b=some o):h'.Main mg c Pl ps :=
 ⟨hm.g.keeps k,hm.code.keeps k,hm.low,hm.bmod.keeps k⟩
theorem zcI {x:Str}{e:Expr}{p pos:Pos}{Q:PySem.Flow→Shared→Prop}{P:Value→Heap→Prop} (M:MS c Pl sB mg0 ns ps fs s) (hx:x≠"__builtins__") (hloc:prog.main.scope.names.lookup x=some .local) (hmod:prog.main.scope.kind = .module)
  (hs:swapsWith e (some (.Name x p)) pos.line (mainEnv prog c F)=pure false) (hc:∀v h h',KB Pl h h'→P v h→P v h')
  (hev:∀Q':Value→Shared→Prop,(∀v h' tk,(∀b o,s.heap.get? b=some o→h'.get? b=some o)→P v h'→Q' v {s with heap:=h',toks:=tk})→wpAny (model prog w) A (eval e (mainEnv prog c F)) Q' E s)
  (K:∀v s',MS c Pl sB mg0 ((x,v)::ns) ps (P v::fs) s'→Q .next s'):wpAny (model prog w) A (exec (.Assign [.Name x p] e pos) (mainEnv prog c F)) Q E s:=by
 refine wpAny_Assign_Name (hev _ λv h' tk hk hP=>?_) hs
 have hm:=zfg M.main hk
 refine wpAny_storeName_local (env:=mainEnv prog c F) hloc hm.g (λh2 hn2 hs2=>?_) (by show(prog.main.scope.kind == .class || (prog.main.scope.kind == .module && mainGlobals != mainGlobals))=false;rw[hmod];rfl)
 have kb:KB Pl h' h2:=λb o _ h2' e=>(hs2.2 b h2').trans e
 exact K v _ (M.cons (by rw[← zgM];exact zjq hm hn2 hs2 hx) ((KB.of hk).trans kb) rfl rfl (hc _ _ _ kb hP) (hc v))
theorem zir {x:Str}{y:Str}{k:Nat}{p q pos:Pos}{Q:PySem.Flow→Shared→Prop} (M:MS c Pl sB mg0 ns ps fs s) (hx:x≠"__builtins__") (hloc:prog.main.scope.names.lookup x=some .local) (hmod:prog.main.scope.kind = .module)
  (K:∀v s',MS c Pl sB mg0 ((x,v)::ns) ps ((λ_=>∃t,v = .str y t)::fs) s'→Q .next s'):wpAny (model prog w) A (exec (.Assign [.Name x p] (.Constant (.str y) k q) pos) (mainEnv prog c F)) Q E s :=
 zcI (P:=λv _=>∃t,v = .str y t) M hx hloc hmod rfl (λ_ _ _ _ h=>h) (λQ' h=>wpAny_Constant_str (h _ s.heap _ (λ_ _ e=>e) ⟨_,rfl⟩)) K
theorem ztF {x:Str}{y:Int}{k:Nat}{p q pos:Pos}{Q:PySem.Flow→Shared→Prop} (M:MS c Pl sB mg0 ns ps fs s) (hx:x≠"__builtins__") (hloc:prog.main.scope.names.lookup x=some .local) (hmod:prog.main.scope.kind = .module)
  (K:∀v s',MS c Pl sB mg0 ((x,v)::ns) ps ((λ_=>∃t,v = .int y t)::fs) s'→Q .next s'):wpAny (model prog w) A (exec (.Assign [.Name x p] (.Constant (.int y) k q) pos) (mainEnv prog c F)) Q E s :=
 zcI (P:=λv _=>∃t,v = .int y t) M hx hloc hmod rfl (λ_ _ _ _ h=>h) (λQ' h=>wpAny_Constant_int (h _ s.heap _ (λ_ _ e=>e) ⟨_,rfl⟩)) K
noncomputable def zyk (e:Expr):Option Int:=match e with
 | .Constant v _ _=>(match v with
  | .int i=>some i
  | _=>none)
 | _=>none
noncomputable def zxI (e:Expr):Option Str:=match e with
 | .Constant v _ _=>(match v with
  | .str i=>some i
  | _=>none)
 | _=>none
theorem zqt {e:Expr}{i:Int} (h:zyk e=some i):∃k p,e = .Constant (.int i) k p:=by
 cases e with
 | Constant v k p=>cases v<;>first | exact⟨k,p,by cases h;rfl⟩ | exact zl h
 | _=>exact zl h
theorem zpz {e:Expr}{i:Str} (h:zxI e=some i):∃k p,e = .Constant (.str i) k p:=by
 cases e with
 | Constant v k p=>cases v<;>first | exact⟨k,p,by cases h;rfl⟩ | exact zl h
 | _=>exact zl h
noncomputable def zbN:List (Option Expr)→List Expr→Option (List (Int×List Nat))
 | [],vs=>on0 vs (some [])
 | k::ks,vs=>k.bind λk=>(zyk k).bind λi=>onC vs λv vs=>(zxI v).bind λy=>(zbN ks vs).map ((i,y.cps.toList)::·)
theorem zfo {env:Env}{pos:Pos}:∀{ks:List (Option Expr)}{vs:List Expr}{R:List (Int×List Nat)},zbN ks vs=some R →
  ∃run,(evalEachOpt ks env).zip ((evalEach vs env).map λv=>do let x ← v;standAt pos;pure x)=run.map (λp=>(some p.1,p.2))∧zU prog w run R
 | [],vs,R,h=>by
  refine xA (zgC h) λq0_ h1=>?_;subst q0_
  cases h1;exact⟨[],rfl,trivial⟩
 | k::ks,vs,R,h=>by
  refine xEA (zcr h) λk q1_ h1=>?_;subst q1_
  refine zf h1 λi hi h2=>?_
  refine onCE h2 λv vs' h3=>?_
  refine zf h3 λy hy h4=>?_
  refine zhB h4 λR' hR=>?_
  refine xEE (zqt hi) λk1 p1 q2_=>?_;subst q2_
  refine xEE (zpz hy) λk2 p2 q2_=>?_;subst q2_
  refine xEA (zfo (env:=env) (pos:=pos) hR) λrun g1 g2=>?_
  refine⟨(eval (.Constant (.int i) k1 p1) env,do let x ← eval (.Constant (.str y) k2 p2) env;standAt pos;pure x)::run,?_,⟨λA s Q E q=>wpAny_Constant_int (env:=env) (k:=k1) (pos:=p1) q,λA s Q E q=>wpAny_bind (wpAny_Constant_str (env:=env) (k:=k2) (pos:=p2) (wpAny_bind (wpAny_standAt (wpAny_pure ?_))))⟩,g2⟩
  ·rw[List.map_cons,← g1];rfl
  ·exact q
noncomputable def zhe (prog:Program) (w:World) (Pl:Addr) (R:List (Int×List Nat)) (v:Value) (h:Heap):Prop:=∃d,v = .ref d∧mainGlobals < d∧Pl < d∧sysModules < d∧zaZ prog w h d R
theorem zhe.kb {Pl:Addr}{R:List (Int×List Nat)}{v:Value}{h h':Heap} (k:KB Pl h h') (x:zhe prog w Pl R v h):zhe prog w Pl R v h':=by
 obtain⟨d,e,h1,h2,h3,kvs,⟨o,es,ep,ho,r⟩,dm⟩:=x
 exact⟨d,e,h1,h2,h3,kvs,⟨o,es,ep,k _ _ (Nat.ne_of_gt h2) (Nat.ne_of_gt h1) ho,r⟩,dm⟩
theorem zqg {x:Str}{keys:List (Option Expr)}{values:List Expr}{R:List (Int×List Nat)}{p q pos:Pos}{Q:PySem.Flow→Shared→Prop} (M:MS c Pl sB mg0 ns ps fs s) (hx:x≠"__builtins__") (hloc:prog.main.scope.names.lookup x=some .local) (hmod:prog.main.scope.kind = .module)
  (hR:zbN keys values=some R) (h0:R≠[]) (hn:(R.map (·.1)).Nodup) (hz:R.length≤sizeLine)
  (K:∀v s',MS c Pl sB mg0 ((x,v)::ns) ps (zhe prog w Pl R v::fs) s'→Q .next s'):wpAny (model prog w) A (exec (.Assign [.Name x p] (.Dict keys values q) pos) (mainEnv prog c F)) Q E s:=by
 have hPl:Pl < s.heap.objs.size:=M.main.code.lt.2
 have hlow:=M.main.low.2
 have hsys:sysModules < Pl:=Nat.lt_trans (by decide) hlow
 refine zcI (P:=zhe prog w Pl R) M hx hloc hmod rfl (λ_ _ _ k x=>x.kb k) (λQ' h=>?_) K
 refine xEA (zfo (prog:=prog) (w:=w) (env:=mainEnv prog c F) (pos:=q) hR) λrun h1 h2=>?_
 refine zqU h1 h2 h0 hn hz (Nat.lt_trans hsys hPl) λd h' tk hd hsz hk=>h _ h' tk hk ⟨d,rfl,Nat.lt_trans hlow (Nat.lt_of_lt_of_le hPl hsz),Nat.lt_of_lt_of_le hPl hsz,Nat.lt_trans hsys (Nat.lt_of_lt_of_le hPl hsz),hd⟩
end
end Mine.Internal
end

noncomputable section
open PySem PySem.Calls PyProof.Rows PySem.SeqAt PySem.W
namespace Mine.Internal
noncomputable def Wd.plain (prog:Program) (w:World) (sB:Shared) (mg mb:Str→Option Value) (tk0:Nat) (h1:sB.heap.NoLimit) (h2:sB.heap.Ns mainGlobals mg) (h3:sB.heap.Ns builtinsNs mb):Wd where
 prog:=prog
 w:=w
 mg:=mg
 mb:=mb
 tk0:=tk0
 X:=λ_=>False
 Sy:=λb=>sB.heap.get? b≠none
 G:=λh=>∀b o,sB.heap.get? b=some o→h.get? b=some o
 keep:=λg k b o e=>k b o (g b o e) (.inl (by rw[e];exact nofun))
 sy:=λ{h b} g q e=>by
  cases q2:sB.heap.get? b with
  | none=>exact q q2
  | some o=>rw[g b o q2]at e;cases e
 xsy:=λ_ q=>q.elim
 xcls:=λ_ q=>q.elim
 nolimit:=λg=>h1.keeps g
 gl:=λg=>h2.keeps g
 bl:=λg=>h3.keeps g
noncomputable def zcM:List Expr→Option (List Int)
 | []=>some []
 | .Constant (.int i) _ _::r=>(zcM r).map (i::·)
 | _=>none
noncomputable def zjO (L:List Int) (k:Int):Bool:=(firstMet (λi=>L.getD i 0) L.length).any (· == k)
noncomputable def zrn (prog:Program) (w:World) (Pl:Addr) (S:Int→Bool) (v:Value) (h:Heap):Prop:=∃b,v = .ref b∧mainGlobals < b∧Pl < b∧∃m,h.SetOf (intKind prog w) b S m
section
variable {prog:Program}{w:World}{c Pl F:Addr}{sB s:Shared}{mg0:Str→Option Value}{ns:List (Str×Value)}{ps:Array Value}{fs:List (Heap→Prop)}{A:Around}{E:Value→Shared→Prop}
theorem zrn.kb {Pl:Addr}{S:Int→Bool}{v:Value}{h h':Heap} (k:KB Pl h h') (x:zrn prog w Pl S v h):zrn prog w Pl S v h' :=
 by
 obtain⟨b,e,h1,h2,m,o,es,ep,t,ho,r⟩:=x
 exact⟨b,e,h1,h2,m,o,es,ep,t,k _ _ (Nat.ne_of_gt h2) (Nat.ne_of_gt h1) ho,r⟩
theorem zfi {M:Model}{env:Env}{pos:Pos}:∀{es:List Expr}{L:List Int}{s:Shared}{Q:List Value→Shared→Prop}{E:Value→Shared→Prop},zcM es=some L →
  (∀(pps:List (Int×Tok)) tk,pps.map (·.1)=L→Q (pps.map λp=>.int p.1 p.2) {s with toks:=tk})→wpAny M A (spliced (backTo pos (starEach es env))) Q E s
 | [],L,s,Q,E,h,k=>by cases h;exact wpAny_items_nil (k [] s.toks rfl)
 | e::es,L,s,Q,E,h,k=>by
  unfold zcM at h
  split at h
  ·rename_i heq;cases heq
  ·rename_i i k1 p1 r heq
   cases heq
   refine xEA (Option.map_eq_some_iff.mp h) λL' hL q2_=>?_;subst q2_
   exact wpAny_items_cons (wpAny_Constant_int (k:=k1) (pos:=p1) (zfi hL λpps tk hp=>k ((i,s.toks)::pps) tk (by rw[List.map_cons,hp]))) rfl
  ·cases h
theorem ztE {x:Str}{es:List Expr}{L1 L2:List Int}{a b:Int}{ka kb:Nat}{pa pb p p1 p2 p3 p4 p5 p6 p7 pl pos:Pos}{mb:Str→Option Value}{Q:PySem.Flow→Shared→Prop} (M:MS c Pl sB mg0 ns ps fs s) (hx:x≠"__builtins__") (hloc:prog.main.scope.names.lookup x=some .local) (hmod:prog.main.scope.kind = .module)
  (hA:Rm 0 A) (hbl:sB.heap.Ns builtinsNs mb)
  (n1:zdI ns mg0 "set" = none) (n2:zdI ns mg0 "list" = none) (n3:zdI ns mg0 "range" = none) (b1:mb "set" = some (.type "set")) (b2:mb "list" = some (.type "list")) (b3:mb "range" = some (.type "range"))
  (hL:zcM es=some L1) (ha : -2 ^ 20≤a) (ha':a≤2 ^ 20) (hb : -2 ^ 20≤b) (hb':b≤2 ^ 20) (hl2:zX a b=L2.map .int) (hlen:L1.length≤1000) (hlen2:L1.length+L2.length≤2000)
  (K:∀v s',MS c Pl sB mg0 ((x,v)::ns) ps (zrn prog w Pl (zjO (L1++L2)) v::fs) s'→Q .next s') :
  wpAny (model prog w) A (exec (.Assign [.Name x p] (.Call (.Name "set" p1) [.BinOp (.List es pl) .Add (.Call (.Name "list" p2) [.Call (.Name "range" p3) [.Constant (.int a) ka pa,.Constant (.int b) kb pb] [] p4] [] p5) p6] [] p7) pos) (mainEnv prog c F)) Q E s:=by
 have hPl:Pl < s.heap.objs.size:=M.main.code.lt.2
 have hlow:=M.main.low.2
 have hne:(builtinsNs:Addr)≠Pl:=Nat.ne_of_lt (Nat.lt_trans (by decide) hlow)
 have hbl':s.heap.Ns builtinsNs mb:=hbl.at λo e=>M.keep _ _ hne (by decide) e
 have nm:∀(y:Str) (v:Value) (q:Pos) (s1:Shared) (Q':Value→Shared→Prop) (E':Value→Shared→Prop),(∀b o,s.heap.get? b=some o→s1.heap.get? b=some o)→zdI ns mg0 y=none→mb y=some v→(y == ("__debug__" : Str))=false→Q' v s1→wpAny (model prog w) A (eval (.Name y q) (mainEnv prog c F)) Q' E' s1 :=
  λy v q s1 Q' E' x1 h1 h2 h3 h=>Name_module hmod rfl (loadGlobal_builtin (M.main.g.keeps x1) h1 (hbl'.keeps x1) h2 h) h3
 refine zcI (P:=zrn prog w Pl (zjO (L1++L2))) M hx hloc hmod rfl (λ_ _ _ k x=>x.kb k) (λQ' h=>?_) K
 refine wpAny_Call_NameR (nm "set" _ p1 s _ _ (λ_ _ e=>e) n1 b1 (by decide) ?_)
 refine PyProof.Rows.callWith_type rfl (evalArgs_plain (Calls.spliced_cons (wpAny_BinOp ?_)))
 refine wpAny_List (zfi hL λpps tk1 hp1=>⟨by rw[List.length_map,← List.length_map (f:=λx=>x.1),hp1];exact Nat.le_trans hlen (by decide),?_⟩)
 dsimp only
 have hl1:(s.heap.push {cls:=.type "list",data:=.seq (pps.map λp=>Value.int p.1 p.2).toArray}).get? s.heap.objs.size=some {cls:=.type "list",data:=.seq (pps.map λp=>Value.int p.1 p.2).toArray}:=Heap.get?_push_size _ rfl
 have k1:∀b o,s.heap.get? b=some o→(s.heap.push {cls:=.type "list",data:=.seq (pps.map λp=>Value.int p.1 p.2).toArray}).get? b=some o:=λb o e=>Heap.get?_push_of_some _ e
 refine wpAny_Call_NameR (nm "list" _ p2 _ _ _ k1 n2 b2 (by decide) ?_)
 refine PyProof.Rows.callWith_type rfl (evalArgs_plain (Calls.spliced_cons ?_))
 refine wpAny_Call_NameR (nm "range" _ p3 _ _ _ k1 n3 b3 (by decide) ?_)
 refine PyProof.Rows.callWith_type rfl (evalArgs_plain (Calls.spliced_cons (wpAny_Constant_int (k:=ka) (pos:=pa) (Calls.spliced_cons (wpAny_Constant_int (k:=kb) (pos:=pb) (Calls.spliced_nil ?_))))))
 refine call_range_2 (Calls.spliced_nil ?_)
 have two:(2:Int) ^ 20 < 2 ^ 62:=by decide
 have hrn:Builtin.Range.rangeSize a b 1=((b - a).toNat:Nat):=by rw[rangeSize_one];split<;>omega
 refine call_list_range hA.1 (IsRange.new ..) (small_one (by omega) (by omega) (by omega) (by omega)) hrn (by
  have:(2:Int) ^ 20=1048576:=by decide
  have h24:2 ^ 24=16777216:=by decide
  omega) λh5 tk5 acc c5 hk5 hS5 hi5=>?_
 dsimp only at hk5 hS5 hi5 ⊢
 have r5:RVs h5 (λ_=>False) (zX a b) acc.toList:=zdZ (h:=h5) (X:=λ_=>False) (a:=a) (λi v q=>q) hi5
 rw[hl2]at r5
 obtain⟨pps2,hpps2,hp2⟩:=zfG (l:=L2) (by
  have:∀l:List Int,zbD (l.map .int)=some l:=λl=>by
   induction l with
   | nil=>rfl
   | cons a l ih=>simp only[List.map_cons,zyj,ih];rfl
  exact this _) r5
 have hk15:∀b o,s.heap.get? b=some o→h5.get? b=some o:=λb o e=>hk5 b o (Heap.get?_push_of_some _ (k1 b o e))
 have hl15:h5.get? s.heap.objs.size=some {cls:=.type "list",data:=.seq (pps.map λp=>Value.int p.1 p.2).toArray}:=hk5 _ _ (Heap.get?_push_of_some _ hl1)
 have e1:pps.length=L1.length:=by rw[← hp1,List.length_map]
 have e2:pps2.length=L2.length:=by rw[← hp2,List.length_map]
 have e3:acc.size=pps2.length:=by rw[← List.length_map (f:=λp:Int×Tok=>Value.int p.1 p.2) (as:=pps2),← hpps2];simp
 refine concat_meets ⟨_,hl15,rfl⟩ ⟨_,hS5,rfl⟩ noFill_list_add seq_list_add PySem.F.slot_list_add PySem.F.entry_list_add (PySem.F.args_list_add_2 _ _) (list_addW _ _ _ acc _ _ none none #[] #[] (by
  simp only[List.size_toArray,List.length_map,e1,e3,e2];exact Nat.le_trans hlen2 (by decide))) ⟨hl15,hS5,Calls.spliced_nil ?_⟩
 have hl6:(h5.push {cls:=.type "list",data:=.seq ((pps.map λp=>Value.int p.1 p.2).toArray++acc)}).get? h5.objs.size=some {cls:=.type "list",data:=.seq ((pps.map λp=>Value.int p.1 p.2).toArray++acc)}:=Heap.get?_push_size _ rfl
 have hitems:(pps.map λp=>Value.int p.1 p.2).toArray++acc=((pps++pps2).map λp=>Value.int p.1 p.2).toArray:=by
  have:acc=acc.toList.toArray:=by simp
  rw[this,hpps2]
  simp
 rw[hitems]at hl6 ⊢
 have hk6:∀b o,s.heap.get? b=some o→(h5.push {cls:=.type "list",data:=.seq ((pps++pps2).map λp=>Value.int p.1 p.2).toArray}).get? b=some o:=λb o e=>Heap.get?_push_of_some _ (hk15 b o e)
 have hPl6:Pl < (h5.push {cls:=.type "list",data:=.seq ((pps++pps2).map λp=>Value.int p.1 p.2).toArray}).objs.size:=(zfg M.main hk6).code.lt.2
 have hsz:((pps++pps2).map λp=>Value.int p.1 p.2).toArray.size=(L1++L2).length:=by simp[e1,e2]
 refine call_set_list (ns:=L1++L2) hA.1 (zd ⟨0,hl6⟩) (by rw[← hp1,← hp2,← List.map_append];exact zjw _) (by rw[hsz,List.length_append];exact Nat.lt_of_le_of_lt (Nat.succ_le_succ hlen2) (by decide)) λh' tk hS hk=>?_
 rw[hsz]at hS
 exact h _ h' tk (λb o e=>hk b o (Heap.lt_size (hk6 b o e)) (hk6 b o e)) ⟨_,rfl,Nat.lt_trans hlow hPl6,hPl6,_,hS⟩
end
end Mine.Internal
end

noncomputable section
set_option backward.match.sparseCases false
open PySem PySem.Calls PyProof.Rows PySem.SeqAt PySem.W
set_option maxRecDepth 100000
namespace Mine.Internal
structure FnText where
 name:Str
 params:Arguments
 body:List Stmt
 scope:Scope
 pos:Pos
noncomputable instance:Inhabited FnText:=⟨⟨"",⟨[],[],none,[],[],none,[]⟩,[],⟨.module,[],false,false,[]⟩,default⟩⟩
noncomputable def zlz:Stmt→Option FnText
 | .FunctionDef n a b _ _ _ sc _ _ p=>some ⟨n,a,b,sc,p⟩
 | _=>none
@[irreducible] noncomputable def zbw (t:FnText):Stmt:=.FunctionDef t.name t.params t.body [] none [] t.scope none t.name t.pos
structure TOk (prog:Program) (t:FnText):Prop where
 hkw:t.params.kwonlyargs=[]
 hkd:t.params.kw_defaults=[]
 hdf:t.params.defaults=[]
 hann:∀e,annTrees t.params none e=[]
 hfree:∀x∈t.scope.names,x.2≠.free
 hloc:prog.main.scope.names.lookup t.name=some .local
 hq:qualnameIn {scope:=prog.main.scope,locals:=mainGlobals,globals:=mainGlobals,cells:=[]} t.name t.name=t.name
 hnb:t.name≠"__builtins__"
theorem zr {l:List (Str×NameKind)} (h:l.all (λx=>x.2 != .free)=true):∀x∈l,x.2≠.free:=λx hx=>by
 have:=List.all_eq_true.mp h x hx
 simpa using this
section
variable {prog:Program}{w:World}{c Pl F:Addr}{sB s:Shared}{mg0:Str→Option Value}{ns:List (Str×Value)}{ps:Array Value}{fs:List (Heap→Prop)}{A:Around}{E:Value→Shared→Prop}
theorem zI {t:FnText}{rest:List Stmt}{Q:PySem.Flow→Shared→Prop} (T:TOk prog t) (hmod:prog.main.scope.kind = .module) (M:MS c Pl sB mg0 ns ps fs s) (hnf:codeAmong t.pos ps.toList=none)
  (K:∀a P c' s',s.heap.get? P=none→MS c Pl sB mg0 ((t.name,.ref a)::ns) (ps++#[rawInt t.pos.line,rawInt t.pos.col,.ref c']) (DefdP Pl t.name t.params t.body t.scope a P::fs) s'→wpAny (model prog w) A (execs rest (mainEnv prog c F)) Q E s') :
  wpAny (model prog w) A (execs (zbw t::rest) (mainEnv prog c F)) Q E s:=by
 unfold zbw
 exact wpAny_execs_cons (ztG M T.hkw T.hkd T.hdf (T.hann _) T.hfree T.hloc T.hq T.hnb hmod hnf K)
theorem zkr {s₀:Shared}{P:Shared→Prop} (h1:s₀.heap.Ns mainGlobals mg0) (hb0:∃bm o,mg0 "__builtins__" = some (.ref bm)∧bm≠builtinsNs∧bm≠mainGlobals∧s₀.heap.get? bm=some o∧o.cls = .type "module"∧o.dict=some builtinsNs∧o.data = .plain) (hg:s₀.gens = #[])
  (hann:hasAnns (behindTheImports prog)=false) (hdoc:docOf (behindTheImports prog)=none)
  (h:∀A' c Pl F sB,Rm 0 A'→s₀.heap.objs.size≤Pl→(∀b o,s₀.heap.get? b=some o→sB.heap.get? b=some o)→sB.os=s₀.os→MS c Pl sB mg0 [] #[] [] sB →
   wpAny (model prog w) A' (execs (behindTheImports prog) (mainEnv prog c F)) (λf s'=>P s'∧s'.gens = #[]) (λ_ _=>False) sB) :
  wpAny (model prog w) callerA (do let code ← moduleCode prog.main;let frame ← newBodyFrame code mainNs mainNs;let _ ← run (.body (behindTheImports prog) {scope:=prog.main.scope,locals:=mainNs,globals:=mainNs,cells:=[],code,frame:=some frame});ret .none)
   (λfin s'=>fin = .done (.ret .none)∧P s'∧s'.gens = #[]) (λ_ _=>False) s₀:=by
 refine wpAny_bind (wpAny_moduleCode λc Pl h14 tk hk hc hPl hcode=>?_)
 unfold newBodyFrame
 have hg1:h14.Ns mainGlobals mg0:=h1.keeps hk
 refine wpAny_bind (wpAny_bind (wpAny_nsGet (a:=mainNs) hg1 (wpAny_alloc ?_)))
 refine wpAny_bind (wpAny_run (codeAny_body hann hdoc ?_))
 have hk':∀(ob:Obj) b o,s₀.heap.get? b=some o→(h14.push ob).get? b=some o:=λob b o e=>Heap.get?_push_of_some _ (hk b o e)
 refine zdQ hb0 λbm o e1 e2 e3 e4 e5 e6 e7=>?_;clear hb0
 have hgl:=h1.lt
 refine wpAny_mono (h _ c Pl h14.objs.size _ ?_ hPl (hk' _) rfl ⟨⟨hg1.push _,hcode.push _,⟨Nat.lt_of_lt_of_le hgl hc,Nat.lt_of_lt_of_le hgl hPl⟩,bm,o,by simpa [zdI] using e1,e2,e3,Nat.ne_of_lt (Nat.lt_of_lt_of_le (Heap.lt_size e4) hPl),hk' _ _ _ e4,e5,e6,e7⟩,KB.refl,hg,rfl,λ_ q=>(nomatch q),λ_ q=>(nomatch q)⟩) (λf s' q=>wpAny_pure ⟨rfl,q⟩) λ_ _ x=>x.elim
 exact⟨rfl,by show(1+claimMargin+1)+0 < 1000;decide,by show(4+3)+8*0 < 9000;decide⟩
end
end Mine.Internal
end

noncomputable section
open PySem PySem.Calls PyProof.Rows PySem.SeqAt PySem.W
namespace Mine.Internal
noncomputable def zdV (P:Addr) (pos:Pos) (qual:Str) (X:Addr→Prop) (h:Heap):Prop :=
 ∃ps,h.get? P=some (tabObj ps)∧TriplesOk ps.toList∧(codeAmong pos ps.toList=none∨∃cc,codeAmong pos ps.toList=some (.ref cc)∧h.CodeRec (.ref cc) qual∧zeF h cc∧¬X cc)
theorem zdV.keep {P:Addr}{pos:Pos}{qual:Str}{X:Addr→Prop}{h h':Heap} (x:zdV P pos qual X h) (k:∀b o,h.get? b=some o→b=P∨(o.cls = .type "code"∧∃vs,o.data = .fields vs)→h'.get? b=some o):zdV P pos qual X h':=by
 refine zdx x λps h1 h2 h3=>?_;clear x
 refine⟨ps,k _ _ h1 (.inl rfl),h2,h3.imp id ?_⟩
 rintro⟨cc,q1,⟨c2,o2,vs,t,e2,g2,d2,r2⟩,⟨o3,g3,r3⟩,q4⟩
 cases e2
 rw[g2]at g3;cases g3
 have kk:=k _ _ g2 (.inr ⟨r3,vs,d2⟩)
 exact⟨cc,q1,⟨_,o2,vs,t,rfl,kk,d2,r2⟩,⟨o2,kk,r3⟩,q4⟩
theorem zdV.get {P:Addr}{pos:Pos}{qual:Str}{X:Addr→Prop}{h:Heap} (x:zdV P pos qual X h):∃ps,h.get? P=some (tabObj ps):=x.elim λps x=>⟨ps,x.1⟩
noncomputable def Wd.two (prog:Program) (w:World) (sL:Shared) (mg mb:Str→Option Value) (tk0:Nat) (P1 P2:Addr) (pos1 pos2:Pos) (q1 q2:Str) (h1:sL.heap.NoLimit) (h2:sL.heap.Ns mainGlobals mg) (h3:sL.heap.Ns builtinsNs mb) (l1:mainGlobals < P1) (l2:mainGlobals < P2) (a1:sL.heap.get? P1≠none) (a2:sL.heap.get? P2≠none):Wd where
 prog:=prog
 w:=w
 mg:=mg
 mb:=mb
 tk0:=tk0
 X:=λb=>b=P1∨b=P2
 Sy:=λb=>sL.heap.get? b≠none
 G:=λh=>(∀b o,sL.heap.get? b=some o→b≠P1→b≠P2→h.get? b=some o)∧zdV P1 pos1 q1 (λb=>b=P1∨b=P2) h∧zdV P2 pos2 q2 (λb=>b=P1∨b=P2) h
 keep:=λg k=>⟨λb o e n1 n2=>k b o (g.1 b o e n1 n2) (.inl (by rw[e];exact nofun)),g.2.1.keep λb o e q=>k b o e (q.imp (by rintro rfl;exact a1) id),g.2.2.keep λb o e q=>k b o e (q.imp (by rintro rfl;exact a2) id)⟩
 sy:=λ{h b} g q e=>by
  by_cases n1:b=P1
  ·refine xE g.2.1.get λps hh=>?_;rw[n1,hh]at e;cases e
  ·by_cases n2:b=P2
   ·refine xE g.2.2.get λps hh=>?_;rw[n2,hh]at e;cases e
   ·cases q2:sL.heap.get? b with
    | none=>exact q q2
    | some o=>rw[g.1 b o q2 n1 n2]at e;cases e
 xsy:=λb q=>by rcases q with rfl | rfl;exact a1;exact a2
 xcls:=λ{h b o} g q e=>by
  have:∃ps,o=tabObj ps:=by
   rcases q with rfl | rfl
   ·refine xE g.2.1.get λps hh=>?_;rw[hh]at e;cases e;exact⟨ps,rfl⟩
   ·refine xE g.2.2.get λps hh=>?_;rw[hh]at e;cases e;exact⟨ps,rfl⟩
  refine xE this λps q1_=>?_;clear this;subst q1_
  exact⟨nofun,nofun,nofun⟩
 nolimit:=λg=>h1.at λo e=>g.1 _ o e (Nat.ne_of_lt (Nat.lt_trans (by decide) l1)) (Nat.ne_of_lt (Nat.lt_trans (by decide) l2))
 gl:=λg=>h2.at λo e=>g.1 _ o e (Nat.ne_of_lt l1) (Nat.ne_of_lt l2)
 bl:=λg=>h3.at λo e=>g.1 _ o e (Nat.ne_of_lt (Nat.lt_trans (by decide) l1)) (Nat.ne_of_lt (Nat.lt_trans (by decide) l2))
section
variable {prog:Program}{w:World}{sL:Shared}{mg mb:Str→Option Value}{tk0:Nat}{P1 P2:Addr}{pos1 pos2:Pos}{q1 q2:Str}{h1:sL.heap.NoLimit}{h2:sL.heap.Ns mainGlobals mg}{h3:sL.heap.Ns builtinsNs mb}{l1:mainGlobals < P1}{l2:mainGlobals < P2}{a1:sL.heap.get? P1≠none}{a2:sL.heap.get? P2≠none}
theorem zfp {c P:Addr}{h h':Heap} (x:CodeHd h c P) (k:∀o,h.get? c=some o→h'.get? c=some o):CodeHd h' c P :=
 x.elim λo x=>x.elim λvs x=>x.elim λfile x=>x.elim λtf x=>x.elim λflags x=>x.elim λtg x=>x.elim λinF x=>x.elim λtext x=>x.elim λtt x=>⟨o,vs,file,tf,flags,tg,inF,text,tt,k _ x.1,x.2⟩
theorem zdi {c P:Addr}{h:Heap} (x:CodeHd h c P):∃o,h.get? c=some o∧o.cls = .type "code" :=
 x.elim λo x=>x.elim λvs x=>x.elim λfile x=>x.elim λtf x=>x.elim λflags x=>x.elim λtg x=>x.elim λinF x=>x.elim λtext x=>x.elim λtt x=>⟨o,x.1,x.2.1⟩
theorem zbv {P c:Addr}{h:Heap}{ps:Array Value}{o:Obj} (e1:h.get? P=some (tabObj ps)) (e2:h.get? c=some o) (hc:o.cls≠.none):c≠P:=by
 rintro rfl
 rw[e1]at e2;cases e2;exact hc rfl
theorem zib {P P' cc:Addr}{pos pos':Pos}{qual qual':Str}{h h':Heap}{ps:Array Value} (hne:P'≠P) (x:zdV P pos qual (λb=>b=P1∨b=P2) h) (x':zdV P' pos' qual' (λb=>b=P1∨b=P2) h) (hX:P=P1∨P=P2) (e:h.get? P=some (tabObj ps)) (hn:codeAmong pos ps.toList=none)
  (hx:Heap.ExtBut P h h') (e':h'.get? P=some (tabObj (ps++#[rawInt pos.line,rawInt pos.col,.ref cc]))) (hr:h'.CodeRec (.ref cc) qual) (ho:zeF h' cc) (hcc:¬(cc=P1∨cc=P2)):zdV P pos qual (λb=>b=P1∨b=P2) h'∧zdV P' pos' qual' (λb=>b=P1∨b=P2) h':=by
 constructor
 ·refine zdx x λps' h1 h2 _=>?_;clear x
  rw[e]at h1;cases h1
  have hl:(ps++#[rawInt pos.line,rawInt pos.col,Value.ref cc]).toList=ps.toList++[rawInt pos.line,rawInt pos.col,.ref cc]:=by simp
  refine⟨_,e',by rw[hl];exact TriplesOk_snoc _ _ _ _ h2,.inr ⟨cc,by rw[hl];exact codeAmong_snoc _ h2 hn,hr,ho,hcc⟩⟩
 ·refine zdx x' λps' h1 h2 h3=>?_;clear x'
  refine⟨ps',hx _ _ hne h1,h2,h3.imp id ?_⟩
  rintro⟨c2,q1,⟨c3,o2,vs,t,e2,g2,d2,r2⟩,⟨o3,g3,r3⟩,q4⟩
  cases e2
  have hc2:c2≠P:=λq=>q4 (q▸hX)
  rw[g2]at g3;cases g3
  exact⟨c2,q1,⟨_,o2,vs,t,rfl,hx _ _ hc2 g2,d2,r2⟩,⟨o2,hx _ _ hc2 g2,r3⟩,q4⟩
theorem znf {c:Addr} (hne:P2≠P1) (hd:CodeHd sL.heap c P1) (hc2:c≠P2) (hb1:sL.heap.BuiltinsAt mg P1) (hb2:sL.heap.BuiltinsAt mg P2):NestAt (Wd.two prog w sL mg mb tk0 P1 P2 pos1 pos2 q1 q2 h1 h2 h3 l1 l2 a1 a2) c P1 pos1 q1 where
 hd:=λh g=>zfp hd λo e=>g.1 _ o e (by obtain⟨_,_,_,_,_,_,_,_,_,_,_,_,_,_,_,_,_,_,hn⟩:=hd;exact hn) hc2
 ne:=Nat.ne_of_lt l1
 x:=.inl rfl
 bat:=λh g=>by
  refine zbT hb1 λbm o e1 e2 e3 e4 e5 e6=>?_;clear hb1
  refine zbT hb2 λbm' o' f1 f2 f3 f4 f5 f6=>?_;clear hb2
  have:bm=bm':=by rw[e1]at f1;cases f1;rfl
  subst this
  exact⟨bm,o,e1,e2,e3,e4,g.1 _ _ e5 e4 f4,e6⟩
 tab:=λh g=>g.2.1
 grow:=λh h' ps cc g e hn hx e' hr ho hge=>by
  have hlt:∀P ps,h.get? P=some (tabObj ps)→P < h.objs.size:=λP ps e=>Heap.lt_size e
  refine xE g.2.2.get λps2 e2=>?_
  have hcc:¬(cc=P1∨cc=P2):=by
   rintro(rfl | rfl)
   ·exact absurd (hlt _ _ e) (Nat.not_lt.mpr hge)
   ·exact absurd (hlt _ _ e2) (Nat.not_lt.mpr hge)
  exact⟨λb o eb n1 n2=>hx b o n1 (g.1 b o eb n1 n2),zib hne g.2.1 g.2.2 (.inl rfl) e hn hx e' hr ho hcc⟩
theorem zne {c:Addr} (hne:P1≠P2) (hd:CodeHd sL.heap c P2) (hc1:c≠P1) (hb1:sL.heap.BuiltinsAt mg P1) (hb2:sL.heap.BuiltinsAt mg P2):NestAt (Wd.two prog w sL mg mb tk0 P1 P2 pos1 pos2 q1 q2 h1 h2 h3 l1 l2 a1 a2) c P2 pos2 q2 where
 hd:=λh g=>zfp hd λo e=>g.1 _ o e hc1 (by obtain⟨_,_,_,_,_,_,_,_,_,_,_,_,_,_,_,_,_,_,hn⟩:=hd;exact hn)
 ne:=Nat.ne_of_lt l2
 x:=.inr rfl
 bat:=λh g=>by
  refine zbT hb1 λbm o e1 e2 e3 e4 e5 e6=>?_;clear hb1
  refine zbT hb2 λbm' o' f1 f2 f3 f4 f5 f6=>?_;clear hb2
  have:bm=bm':=by rw[e1]at f1;cases f1;rfl
  subst this
  exact⟨bm,o,e1,e2,e3,f4,g.1 _ _ e5 e4 f4,e6⟩
 tab:=λh g=>g.2.2
 grow:=λh h' ps cc g e hn hx e' hr ho hge=>by
  have hlt:∀P ps,h.get? P=some (tabObj ps)→P < h.objs.size:=λP ps e=>Heap.lt_size e
  refine xE g.2.1.get λps2 e2=>?_
  have hcc:¬(cc=P1∨cc=P2):=by
   rintro(rfl | rfl)
   ·exact absurd (hlt _ _ e2) (Nat.not_lt.mpr hge)
   ·exact absurd (hlt _ _ e) (Nat.not_lt.mpr hge)
  have:=zib hne g.2.2 g.2.1 (.inr rfl) e hn hx e' hr ho hcc
  exact⟨λb o eb n1 n2=>hx b o n2 (g.1 b o eb n1 n2),this.2,this.1⟩
end
end Mine.Internal
end

noncomputable section
open PySem PySem.Calls PyProof.Rows PySem.SeqAt PySem.W
namespace Mine.Internal
structure PD where
 id:Nat
 us:List U
 ns:List Str
 na:Nat
 nk:Nat
noncomputable instance:Inhabited PD:=⟨⟨0,[],[],0,0⟩⟩
noncomputable def zxO (f:Nat) (ds:List D):Option D:=if f=50 then on0 ds (some (.int 4000)) else bi f ds
noncomputable def zxP (T:Int→Option (List Nat)) (f:Nat) (ds:List D):Option D:=if f=31 then on1 ds λd=>zaT d λx=>on1 x λc=>if (low c).length≤100 then some (.str ((T c).getD (low c))) else none else zxO f ds
noncomputable def zxQ (S:Int→Bool) (T:Int→Option (List Nat)) (f:Nat) (ds:List D):Option D:=if f=30 then on1 ds λd=>zaT d λx=>on1 x λc=>some (.bool (S c)) else zxP T f ds
noncomputable def zxR (S:Int→Bool) (T:Int→Option (List Nat)) (k:Nat) (f:Nat) (ds:List D):Option D:=if f=26 then on2 ds λxs n=>zad xs λxs=>zA n λn=>if (zbD xs).isSome=true then(d2i k xs n).map .int else none else zxQ S T f ds
noncomputable def zxS (S:Int→Bool) (T:Int→Option (List Nat)) (k:Nat) (f:Nat) (ds:List D):Option D:=if f=25 then on2 ds λa n=>zA a λa=>zA n λn=>(i2d k a n).map .list else zxR S T k f ds
noncomputable def zop (S:Int→Bool) (T:Int→Option (List Nat)) (k:Nat) (f:Nat) (ds:List D):Option D:=if f=20 then on1 ds λd=>zaT d λx=>if k=0 then none else some (.list (zcQ x 0 false)) else zxS S T k f ds
noncomputable def FL (tbl:List PD) (S:Int→Bool) (T:Int→Option (List Nat)) (N:Nat):Nat→Fns
 | 0=>λ_ _=>none
 | k+1=>λf ds=>if f=1063 then(if 0 < k∧(tbl.find? (λp=>p.id == 63)).isSome then zku (FL tbl S T N k) ds else none) else match tbl.find? (λp=>p.id == f) with
  | some p=>if ds.length=p.na then zbJ (FL tbl S T N k) N p.nk p.us ds else none
  | none=>zop S T k f ds
theorem zjM {tbl:List PD}{S:Int→Bool}{T:Int→Option (List Nat)}{N k f:Nat}{ds:List D} (h:f≠1063):FL tbl S T N (k+1) f ds=match tbl.find? (λp=>p.id == f) with
  | some p=>if ds.length=p.na then zbJ (FL tbl S T N k) N p.nk p.us ds else none
  | none=>zop S T k f ds:=if_neg h
structure HeadOk (W:Wd) (tbl:List PD) (S:Int→Bool) (T:Int→Option (List Nat)):Prop where
 defs:∀p∈tbl,∃a fd body,DefAt W (zh p.id) a fd body p.ns p.na∧zjj fd.scope.names p.ns=true∧p.ns.length=p.na+p.nk∧mSs {names:=fd.scope.names,ns:=p.ns,no:=p.ns.length} p.us body=true
 small:tbl.all (λp=>decide (p.id < 1000))=true
 tak:∀p∈tbl,p.id=63→p.us=zT∧p.na=5∧p.nk=3
 free:([20,25,26,30,31,50,99]++List.range 10).all (λf=>(tbl.find? (λ(p:PD)=>p.id == f)).isNone)=true
 bis:∀f,f < 8→FnAt W (zh f) (zbY f)
 nb:∀h,W.G h→NoneBooked h
 pos:0 < W.tk0
 tyRange:FnAt W (zh 8) (.type "range")
 tyRev:FnAt W (zh 9) (.type "reversed")
 tyEnum:FnAt W "enumerate" (.type "enumerate")
 lim:∃v,FnAt W (zh 50) v∧∃t,v = .int 4000 t
 gen:∀{F:Fns}{k:Nat},Snd W F k→∀{own:Bool}{c:Cx}{ρ:zc}{p pos:Pos}{es:List Expr}{x:List Nat},c.k=k+2→c.env.kindOf (zh 20)=some .globalImplicit→ze es=true→EvL W .al c ρ es [.str x]→EvS W own c ρ (.Call (.Name (zh 20) p) es [] pos) true (zcQ x 0 false)
 f25:∀{F:Fns}{k:Nat},Snd W F k→(∀m,F 0 [.list (List.replicate m (.int 0))]=if m≤2 ^ 20 then some (.int m) else none)→∀{n0 n:Int}{ys:List D},i2d k n0 n=some ys→zhh W (k+1) (zh 25) [.int n0,.int n] (.list ys)
 f26:∀{F:Fns}{k:Nat},Snd W F k→(∀ds:List D,F 0 [.list ds]=if ds.length≤2 ^ 20 then some (.int ds.length) else none)→∀{n v:Int}{ds:List D},zgc ds→d2i k ds n=some v→zhh W (k+1) (zh 26) [.list ds,.int n] (.int v)
 f30:∀k (ch:Nat),zhh W (k+1) (zh 30) [.str [ch]] (.bool (S ch))
 f31:∀k (ch:Nat),(low ch).length≤100→zhh W (k+1) (zh 31) [.str [ch]] (.str ((T ch).getD (low ch)))
theorem zqs {xs:List D} (h:(zbD xs).isSome=true):zgc xs:=by
 refine xE (Option.isSome_iff_exists.mp h) λl hl=>?_
 rw[zfH hl]
 intro d hd
 refine xEA (List.mem_map.mp hd) λi _ q2_=>?_;subst q2_
 exact⟨i,rfl⟩
theorem zuN {f:Nat}{ds:List D}{d:D} (h:bi f ds=some d):f < 8 :=
 ifE (P:=λf=>f < 8) h (λ_=>by decide) λh =>
 ifE (P:=λf=>f < 8) h (λ_=>by decide) λh =>
 ifE (P:=λf=>f < 8) h (λ_=>by decide) λh =>
 ifE (P:=λf=>f < 8) h (λ_=>by decide) λh =>
 ifE (P:=λf=>f < 8) h (λ_=>by decide) λh=>zl h
noncomputable def zrt:Fns:=λf ds=>if f=0 then bi 0 ds else none
theorem zkz {W:Wd}{tbl:List PD}{S:Int→Bool}{T:Int→Option (List Nat)} (H:HeadOk W tbl S T) (k:Nat):Snd W zrt k where
 fn:=λf ds d hi h=>by
  unfold zrt at h
  split at h
  ·rename_i h0;subst h0;exact zuc (H.bis 0 (by decide)) h
  ·cases h
 gl:=λd h=>by simp[zrt]at h
 fnt:=λf d xs d' h=>by simp[zrt]at h
 src:=λds items h=>by simp[zrt]at h
 tk:=λi h=>by simp[zrt]at h
 nb:=H.nb
 pos:=H.pos
 tyList:=H.bis 1 (by decide)
 tyRange:=H.tyRange
 tyRev:=H.tyRev
 fnSort:=H.bis 3 (by decide)
theorem zeZ {S:Int→Bool}{T:Int→Option (List Nat)}{k f:Nat}{ds:List D} (h:f ∉ [20,25,26,30,31,50]):zop S T k f ds=bi f ds:=by
 have ne:∀n,n∈[20,25,26,30,31,50]→f≠n:=λn hn e=>h (e▸hn)
 exact(if_neg (ne 20 (by decide))).trans ((if_neg (ne 25 (by decide))).trans ((if_neg (ne 26 (by decide))).trans ((if_neg (ne 30 (by decide))).trans ((if_neg (ne 31 (by decide))).trans (if_neg (ne 50 (by decide)))))))
noncomputable def Wd.late (W:Wd) (t:Nat):Wd:={W with tk0:=t}
theorem FnAt.late {W:Wd}{t:Nat}{x:Str}{v:Value} (h:FnAt W x v):FnAt (W.late t) x v:=⟨h.at_,h.dbg⟩
theorem zba.late {W:Wd}{t:Nat}{v:Value} (h:zba W v):zba (W.late t) v:=h
theorem Stp.late {W:Wd}{t:Nat}{s s':Shared} (h:Stp W s s'):Stp (W.late t) s s':=⟨h.evo,h.g,h.os,h.gens,h.bare,h.toks⟩
theorem Stp.early {W:Wd}{t:Nat}{s s':Shared} (h:Stp (W.late t) s s'):Stp W s s':=⟨h.evo,h.g,h.os,h.gens,h.bare,h.toks⟩
theorem zhh.late {W:Wd}{t k:Nat}{x:Str}{ds:List D}{d:D} (h:zhh W k x ds d) (ht:W.tk0≤t):zhh (W.late t) k x ds d:=by
 refine zdx h λfv h1 h2 h3=>?_;clear h
 exact⟨fv,h1.late,h2.late,λA s vs r g tk rv Q E kk=>h3 A s vs r g (Nat.le_trans ht tk) rv Q E λv s' x rv=>kk v s' x.late rv⟩
theorem DefAt.late {W:Wd}{t:Nat}{x:Str}{a:Addr}{fd:FuncData}{body:List Stmt}{ns:List Str}{na:Nat} (h:DefAt W x a fd body ns na):DefAt (W.late t) x a fd body ns na :=
 {at_:=h.at_.late,obj:=h.obj,body:=h.body,clo:=h.clo,glob:=h.glob,blt:=h.blt,code:=h.code,bind:=h.bind,co:=h.co,gen:=h.gen,kind:=h.kind}
noncomputable def zjt (F:Fns) (t:Nat):Fns:=λf ds=>if f=99 then some (.int t) else if f=20∨1000≤f then none else F f ds
theorem Snd.late {W:Wd}{F:Fns}{k t:Nat} (Z:Snd W F k) (ht:W.tk0≤t):Snd (W.late t) (zjt F t) k where
 fn:=λf ds d hi h=>by
  have h99:f≠99:=by rintro rfl;simp[zrv]at hi
  have h20:f≠20:=by rintro rfl;simp[zrv]at hi
  unfold zjt at h
  rw[if_neg h99]at h
  split at h
  ·cases h
  ·exact(Z.fn f ds d hi h).late ht
 gl:=λd h=>by
  refine zdx (Z.gl d h) λfv h1 h2 h3=>?_
  exact⟨fv,h1.late,h2,h3⟩
 fnt:=λf d xs d' h=>by
  unfold zjt at h
  rw[if_neg (by lia),if_pos (.inr (by lia))]at h
  cases h
 src:=λds items h=>by cases h
 tk:=λi h=>by
  have h:some (D.int t)=some (D.int i):=h
  cases h
  exact Int.le_refl _
 nb:=Z.nb
 pos:=Nat.lt_of_lt_of_le Z.pos ht
 tyList:=Z.tyList.late
 tyRange:=Z.tyRange.late
 tyRev:=Z.tyRev.late
 fnSort:=Z.fnSort.late
theorem zeV {F:Fns}{t:Nat}{a b c e:List Nat}:∀{ws ys:List D},zdp F a b c e ws=some ys→zdp (zjt F t) a b c e ws=some ys
 | [],ys,h=>h
 | d::r,ys,h=>by
  refine zfd h λw g1=>?_
  refine zf g1 λx h1 g2=>?_
  refine zf g2 λdt ht g3=>?_
  refine xEA (zec g3) λt' q1_ g4=>?_;subst q1_
  refine zhB g4 λzs h3=>?_
  show(zbI w a b c e).bind _=_
  rw[h1]
  show(F 22 [x]).bind _=_
  rw[ht]
  show(zdp (zjt F t) a b c e r).map _=_
  rw[zeV h3]
  rfl
theorem zic:∀xs:List (List Nat),zcZ (xs.map .str)=some xs
 | []=>rfl
 | x::xs=>by
  show(zcZ (xs.map .str)).map (x::·)=_
  rw[zic xs];rfl
theorem zub {W:Wd}{F:Fns}{k N:Nat}{a:Addr}{fd:FuncData}{body:List Stmt}{ns:List Str} (Z:Snd W F k) (h4:∀n:Int,F 4 [.int 0,.int n]=some (.int (if n > 0 then n else 0)))
  (D0:DefAt W (zh 63) a fd body ns 5) (h1:zjj fd.scope.names ns=true) (h2:ns.length=5+3) (h3:mSs {names:=fd.scope.names,ns:=ns,no:=ns.length} zT body=true) {d d':D}{xs:List (List Nat)} (h:zku F (d::xs.map .str)=some d'):zoc W (k+1) (zh 63) d xs d':=by
 refine xEA D0.obj λo ho hat=>?_
 refine⟨.ref a,D0.at_,⟨o,fd,ho,hat⟩,λA s v ts hr g rv e1 e2 e3 e4 Q E kk=>?_⟩
 refine zav (zgB h) λd1 r hr1 g1=>?_
 cases hr1
 refine xEA (zaL g1) λws q1_ g2=>?_;subst q1_
 refine zf g2 λl hl1 g3=>?_
 rw[zic]at hl1
 cases hl1
 refine zaI (zts g3) λxa xb xc xe q4_ g5=>?_;subst q4_
 refine zay g5 λhl g6=>?_
 refine xEA (zhf g6) λys h5 q2_=>?_;subst q2_
 ·obtain⟨t1,t2,t3,t4,rfl⟩:=len4 e1.symm
  have q1:=e3 t1 (by simp)
  have q2:=e3 t2 (by simp)
  have q3:=e3 t3 (by simp)
  have q4:=e3 t4 (by simp)
  have pz:=Z.pos
  have q5:t3 < t4:=by
   have:=e2
   simp only[List.pairwise_cons,List.mem_cons,List.not_mem_nil,or_false]at this
   exact this.2.2.1 t4 rfl
  have R:=zkt (F:=zjt F s.toks) (N:=N) (K:=(s.toks:Int)) (t1:=t1) (t2:=t2) (t3:=t3) (t4:=t4) h4 rfl ⟨Nat.lt_of_lt_of_le pz q1.1,Nat.lt_of_lt_of_le pz q2.1,Nat.lt_of_lt_of_le pz q3.1,Nat.lt_of_lt_of_le pz q4.1,Int.ofNat_lt.mpr q1.2,Int.ofNat_lt.mpr q2.2,Nat.ne_of_lt q5⟩ (zeV h5) hl
  refine zdx (zqD (Z.late e4) (D0.late (t:=s.toks)) h1 h2 h3 rfl R) λfv f1 f2 f3=>?_
  have:fv = .ref a:=by
   rcases f1.at_ with p | ⟨p,q⟩<;>rcases D0.at_.at_ with p' | ⟨p',q'⟩
   ·exact Option.some.inj (p.symm.trans p')
   ·exact absurd (p.symm.trans p') (by simp)
   ·exact absurd (p'.symm.trans p) (by simp)
   ·exact Option.some.inj (q.symm.trans q')
  subst this
  exact f3 A s _ hr g (Nat.le_refl _) ⟨v,_,rfl,rv,_,_,rfl,rfl,_,_,rfl,rfl,_,_,rfl,rfl,_,_,rfl,rfl,rfl⟩ Q E λr s' x rr=>kk r s' x.early rr
theorem zqC {W:Wd}{tbl:List PD}{S:Int→Bool}{T:Int→Option (List Nat)} (H:HeadOk W tbl S T) {k f:Nat}{ds:List D}{d:D} (hi:zrv f=true) (h:zop S T k f ds=some d):zhh W (k+1) (zh f) ds d:=by
 rcases ifP (y:=zxS S T k f ds) h with ⟨rfl,_⟩ | ⟨_,g1⟩
 ·cases hi
 rcases ifP (y:=zxR S T k f ds) g1 with ⟨rfl,h1⟩ | ⟨_,g2⟩
 ·refine ztt h1 λa n h2=>?_
  refine zaf h2 λa h3=>?_
  refine zaf h3 λn h4=>?_
  refine zhB h4 λys h5=>?_
  exact H.f25 (zkz H k) (λm=>by
   show(if (List.replicate m (D.int 0)).length≤2 ^ 20 then some (D.int ((List.replicate m (D.int 0)).length:Nat)) else none)=_
   rw[List.length_replicate]) h5
 rcases ifP (y:=zxQ S T f ds) g2 with ⟨rfl,h1⟩ | ⟨_,g3⟩
 ·refine ztt h1 λa n h2=>?_
  refine zeb h2 λxs h3=>?_
  refine zaf h3 λn h4=>?_
  refine zay h4 λhx h5=>?_
  refine zhB h5 λv h6=>?_
  exact H.f26 (zkz H k) (λds=>zhR) (zqs hx) h6
 rcases ifP (y:=zxP T f ds) g3 with ⟨rfl,h1⟩ | ⟨_,g4⟩
 ·refine zkV h1 λa h2=>?_
  refine zfd h2 λx h3=>?_
  refine zkV h3 λc h4=>?_
  refine zo h4 ?_;exact H.f30 k _
 rcases ifP (y:=zxO f ds) g4 with ⟨rfl,h1⟩ | ⟨_,g5⟩
 ·refine zkV h1 λa h2=>?_
  refine zfd h2 λx h3=>?_
  refine zkV h3 λc h4=>?_
  refine zay h4 λhl h5=>?_
  refine zo h5 ?_;exact H.f31 k _ hl
 rcases ifP (y:=bi f ds) g5 with ⟨rfl,_⟩ | ⟨_,g6⟩
 ·cases hi
 exact zuc (H.bis f (zuN g6)) g6
theorem zmQ {W:Wd}{tbl:List PD}{S:Int→Bool}{T:Int→Option (List Nat)}{F:Fns} (H:HeadOk W tbl S T) {k:Nat} (Z:Snd W F k) {ds items:List D} (h:zop S T k 20 ds=some (.list items)) {own:Bool}{c:Cx}{ρ:zc}{p pos:Pos}{es:List Expr} (hck:c.k=k+1)
  (hk:c.env.kindOf (zh 20)=some .globalImplicit) (hn:ze es=true) (hel:EvL W .al c ρ es ds):EvS W own c ρ (.Call (.Name (zh 20) p) es [] pos) true items:=by
 refine xEA (zik (show(on1 ds λd=>zaT d λx=>if k=0 then none else some (D.list (zcQ x 0 false)))=some (D.list items) from h)) λd q1_ h1=>?_;subst q1_
 refine xEA (zF h1) λx q1_ h2=>?_;subst q1_
 refine xA (zwP h2) λhk0 h3=>?_
 cases zp h3
 refine xE (Nat.exists_eq_succ_of_ne_zero hk0) λk' q1_=>?_;subst q1_
 exact H.gen (Z.none (k':=k')) hck hk hn hel
theorem zqB {W:Wd}{tbl:List PD}{S:Int→Bool}{T:Int→Option (List Nat)}{N k:Nat} (H:HeadOk W tbl S T) (Z:Snd W (FL tbl S T N k) k) {f:Nat}{d d':D}{xs:List (List Nat)} (h:FL tbl S T N (k+1) (f+1000) (d::xs.map .str)=some d'):zoc W (k+1) (zh f) d xs d':=by
 by_cases hf:f=63
 ·subst hf
  obtain⟨⟨hk0,hp⟩,h'⟩:=ziy (show(if 0 < k∧(tbl.find? (λp=>p.id == 63)).isSome then zku (FL tbl S T N k) (d::xs.map .str) else none)=some d' from h)
  refine xE (Option.isSome_iff_exists.mp hp) λp hp=>?_
  have hid:p.id=63:=by have:=List.find?_some hp;exact eq_of_beq this
  have hmem:=List.mem_of_find?_eq_some hp
  refine xAA (H.tak p hmem hid) λeu ea ek=>?_
  refine zbr (H.defs p hmem) λa fd body D0 h1 h2 h3=>?_
  rw[hid,ea]at D0
  rw[ea,ek]at h2
  rw[eu]at h3
  refine zub (N:=N) Z (λn=>?_) D0 h1 h2 h3 h'
  cases k with
  | zero=>exact absurd hk0 (by decide)
  | succ k =>
   rw[zjM (by decide),Option.isNone_iff_eq_none.mp (List.all_eq_true.mp H.free 4 (by decide))]
   rfl
 ·have h':FL tbl S T N (k+1) (f+1000) (d::xs.map .str)=some d':=h
  rw[zjM (by lia)]at h'
  have hn:tbl.find? (λp=>p.id == f+1000)=none:=by
   rw[List.find?_eq_none]
   intro p hp e
   have e1:=of_decide_eq_true (List.all_eq_true.mp H.small p hp)
   have e2:p.id=f+1000:=eq_of_beq e
   lia
  rw[hn]at h'
  have h2:zop S T k (f+1000) (d::xs.map .str)=some d':=h'
  rw[zeZ (by simp only[List.mem_cons,List.not_mem_nil,or_false,not_or];lia)]at h2
  have:=zuN h2
  lia
theorem zkA {W:Wd}{tbl:List PD}{S:Int→Bool}{T:Int→Option (List Nat)}{N:Nat} (H:HeadOk W tbl S T):∀k,Snd W (FL tbl S T N k) k
 | 0=>zfz H.nb H.pos (H.bis 1 (by decide)) H.tyRange H.tyRev (H.bis 3 (by decide))
 | k+1=>by
  have Z:=zkA (N:=N) H k
  have hsp:∀f ds,f∈([20,25,26,30,31,50,99]++List.range 10)→FL tbl S T N (k+1) f ds=zop S T k f ds:=λf ds hf=>by
   rw[zjM (by rintro rfl;exact absurd hf (by decide)),Option.isNone_iff_eq_none.mp (List.all_eq_true.mp H.free f hf)]
  refine {fnt:=λf d xs d' h=>zqB H Z h,fn:=λf ds d hi h=>?_,gl:=λd h=>?_,src:=λds items h hfl own c ρ p pos es hck hk hn hel=>?_,tk:=λi h=>?_,nb:=H.nb,pos:=H.pos,tyList:=H.bis 1 (by decide),tyRange:=H.tyRange,tyRev:=H.tyRev,fnSort:=H.bis 3 (by decide)}
  ·have hne:f≠1063:=by rintro rfl;cases hi
   rw[zjM hne]at h
   cases hp:tbl.find? (λp=>p.id == f) with
   | some p =>
    rw[hp]at h
    refine zay ((show(if ds.length=p.na then zbJ (FL tbl S T N k) N p.nk p.us ds else none)=some d from h)) λhl h'=>?_
    have hid:p.id=f:=by have:=List.find?_some hp;exact eq_of_beq this
    refine zbr (H.defs p (List.mem_of_find?_eq_some hp)) λa fd body D0 h1 h2 h3=>?_
    rw[hid]at D0
    exact zqD Z D0 h1 h2 h3 hl h'
   | none =>
    rw[hp]at h
    exact zqC H hi h
  ·rw[hsp 50 [] (by decide)]at h
   refine zo (show some (D.int 4000)=some d from h) ?_
   refine zvD H.lim λv hv t q3_=>?_;subst q3_
   exact⟨_,hv,rfl,λh X _=>zi.mpr ⟨t,rfl⟩⟩
  ·rw[hsp 20 ds (by decide)]at h
   exact zmQ H Z h hck hk hn hel
  ·rw[hsp 99 [] (by decide)]at h
   exact zl (show(Option.none:Option D)=some (.int i) from h)
end Mine.Internal
end

noncomputable section
open PySem PySem.Calls PyProof.Rows PySem.SeqAt PySem.W
namespace Mine.Internal
structure Call1 where
 n:Str
 p:Pos
 es:List Expr
 q:Pos
set_option backward.match.sparseCases false
noncomputable def eNm (e:Expr):Str:=match e with
 | .Name n _=>n
 | .Attribute _ n _=>n
 | _=>""
noncomputable def zfl (e:Expr):List Expr:=match e with
 | .Call f es _ _=>f::es
 | .BinOp a _ b _=>[a,b]
 | .IfExp a b c _=>[a,b,c]
 | .Compare a _ bs _=>a::bs
 | .Attribute a _ _=>[a]
 | .Yield a _=>a.toList
 | .Tuple es _ _=>es
 | _=>[]
noncomputable def eK (e:Expr):Nat:=match e with
 | .Constant _ k _=>k
 | .Tuple _ k _=>k
 | _=>0
noncomputable def zvk (s:Stmt):List Expr:=match s with
 | .Return a _=>a.toList
 | .Expr a _=>[a]
 | .If a _ _ _=>[a]
 | .For a b _ _ _=>[a,b]
 | .Assign ts a _=>ts++[a]
 | _=>[]
noncomputable def zgs (s:Stmt):List Stmt:=match s with
 | .If _ b _ _=>b
 | .For _ _ b _ _=>b
 | .FunctionDef _ _ b _ _ _ _ _ _ _=>b
 | _=>[]
noncomputable def zsE (s:Stmt):List Stmt:=match s with
 | .If _ _ b _=>b
 | _=>[]
set_option backward.match.sparseCases true
noncomputable def eAt (l:List Expr) (i:Nat):Expr:=l.getD i (.Constant .none 0 default)
noncomputable def sAt (l:List Stmt) (i:Nat):Stmt:=l.getD i (.Pass default)
noncomputable def sE (l:List Stmt) (i:Nat):Expr:=eAt (zvk (sAt l i)) 0
noncomputable def zjE (e:Expr):Call1:=⟨eNm (eAt (zfl e) 0),(eAt (zfl e) 0).pos,(zfl e).tail,e.pos⟩
noncomputable def Call1.e (c:Call1):Expr:=.Call (.Name c.n c.p) c.es [] c.q
structure Txt25 where
 s1:Stmt
 nm:Str
 params:Arguments
 bpre:List Stmt
 c1:Call1
 r1:Pos
 c2:Call1
 r2:Pos
 scI:Scope
 posI:Pos
 na:Str
 pa:Pos
 c3:Call1
 r3:Pos
 pi:Pos
 nr:Str
 pr:Pos
 pr2:Pos
noncomputable def Txt25.all (t:Txt25):List Stmt:=[t.s1,.FunctionDef t.nm t.params (t.bpre++[.Expr t.c1.e t.r1,.Expr t.c2.e t.r2]) [] none [] t.scI none t.nm t.posI,.If (.Name t.na t.pa) [.Expr t.c3.e t.r3] [] t.pi,.Return (some (.Name t.nr t.pr)) t.pr2]
noncomputable def zvW (l:List Stmt) (f:FnText):Txt25 :=
 let ib:=f.body.reverse
 ⟨sAt l 0,f.name,f.params,(ib.drop 2).reverse,zjE (sE ib 1),(sAt ib 1).pos,zjE (sE ib 0),(sAt ib 0).pos,f.scope,f.pos,eNm (sE l 2),(sE l 2).pos,zjE (sE (zgs (sAt l 2)) 0),(sAt (zgs (sAt l 2)) 0).pos,(sAt l 2).pos,eNm (sE l 3),(sE l 3).pos,(sAt l 3).pos⟩
structure Txt26 where
 nm:Str
 params:Arguments
 bpre:List Stmt
 c1:Call1
 c2:Call1
 esh:Expr
 r1:Pos
 r2:Pos
 r3:Pos
 scI:Scope
 posI:Pos
 na:Str
 pa:Pos
 c3:Call1
 kz:Nat
 pz:Pos
 pi:Pos
 pr:Pos
noncomputable def Txt26.all (t:Txt26):List Stmt:=[.FunctionDef t.nm t.params (t.bpre++[.Return (some (.BinOp (.BinOp t.c1.e .LShift t.esh t.r1) .Add t.c2.e t.r2)) t.r3]) [] none [] t.scI none t.nm t.posI,.Return (some (.IfExp (.Name t.na t.pa) t.c3.e (.Constant (.int 0) t.kz t.pz) t.pi)) t.pr]
noncomputable def zvV (l:List Stmt) (f:FnText):Txt26 :=
 let ib:=f.body.reverse
 let b:=zfl (sE ib 0)
 let a:=zfl (eAt b 0)
 let r:=zfl (sE l 1)
 ⟨f.name,f.params,(ib.drop 1).reverse,zjE (eAt a 0),zjE (eAt b 1),eAt a 1,(eAt b 0).pos,(sE ib 0).pos,(sAt ib 0).pos,f.scope,f.pos,eNm (eAt r 0),(eAt r 0).pos,zjE (eAt r 1),eK (eAt r 2),(eAt r 2).pos,(sE l 1).pos,(sAt l 1).pos⟩
noncomputable def gtxt (l:List Stmt):GTxt :=
 let f:=sAt l 2
 let i1:=sAt (zgs f) 0
 let i2:=sAt (zsE i1) 0
 let i3:=sAt l 3
 let x1:=sAt (zgs i1) 0
 let x2:=sAt (zsE i2) 0
 let x3:=sAt (zgs i3) 0
 let v:=λs=>eAt (zvk s) 0
 {S1:=sAt l 0,S2:=sAt l 1,S3:=sAt (zgs i1) 1,S4:=sAt (zgs i2) 0,t1:=v i1,t2:=v i2,t3:=v i3,e1:=eAt (zfl (v x1)) 0,e2:=eAt (zfl (v x2)) 0,e3:=eAt (zfl (v x3)) 0,tgts:=zfl (v f),kt:=eK (v f),pt:=(v f).pos,iter:=eAt (zvk f) 1,y1:=(v x1).pos,y2:=(v x2).pos,y3:=(v x3).pos,q1:=x1.pos,q2:=x2.pos,q3:=i2.pos,q4:=i1.pos,q5:=x3.pos,q6:=i3.pos,q7:=f.pos}
structure TxtB1 where
 no:Str
 nc:Str
 nb:Str
 p1:Pos
 p2:Pos
 p3:Pos
 p4:Pos
 p5:Pos
 p6:Pos
noncomputable def TxtB1.all (t:TxtB1):List Stmt:=[.Return (some (.Compare (.Call (.Name t.no t.p1) [.Name t.nc t.p2] [] t.p3) [.In] [.Name t.nb t.p4] t.p5)) t.p6]
noncomputable def zvU (l:List Stmt):TxtB1 :=
 let c:=zfl (sE l 0)
 let k:=zfl (eAt c 0)
 ⟨eNm (eAt k 0),eNm (eAt k 1),eNm (eAt c 1),(eAt k 0).pos,(eAt k 1).pos,(eAt c 0).pos,(eAt c 1).pos,(sE l 0).pos,(sAt l 0).pos⟩
structure TxtB3 where
 no:Str
 nc:Str
 nb:Str
 nr:Str
 kc:Nat
 p:Nat→Pos
noncomputable def TxtB3.all (t:TxtB3):List Stmt:=[.Assign [.Name t.nr (t.p 1)] (.Call (.Attribute (.Name t.nb (t.p 2)) "get" (t.p 3)) [.Call (.Name t.no (t.p 4)) [.Name t.nc (t.p 5)] [] (t.p 6)] [] (t.p 7)) (t.p 8),
 .If (.Compare (.Name t.nr (t.p 9)) [.IsNot] [.Constant .none t.kc (t.p 10)] (t.p 11)) [.Return (some (.Name t.nr (t.p 12))) (t.p 13)] [] (t.p 14),.Return (some (.Call (.Attribute (.Name t.nc (t.p 15)) "lower" (t.p 16)) [] [] (t.p 17))) (t.p 18)]
noncomputable def zvT (l:List Stmt):TxtB3 :=
 let a:=zvk (sAt l 0)
 let v:=zfl (eAt a 1)
 let t:=eAt (zfl (eAt v 0)) 0
 let n:=zfl (eAt v 1)
 let m:=zfl (sE l 1)
 let b:=zgs (sAt l 1)
 let w:=eAt (zfl (sE l 2)) 0
 ⟨eNm (eAt n 0),eNm (eAt n 1),eNm t,eNm (eAt a 0),eK (eAt m 1),λi=>[default,(eAt a 0).pos,t.pos,(eAt v 0).pos,(eAt n 0).pos,(eAt n 1).pos,(eAt v 1).pos,(eAt a 1).pos,(sAt l 0).pos,(eAt m 0).pos,(eAt m 1).pos,(sE l 1).pos,(sE b 0).pos,(sAt b 0).pos,(sAt l 1).pos,(eAt (zfl w) 0).pos,w.pos,(sE l 2).pos,(sAt l 2).pos].getD i default⟩
structure PMatch (t:FnText) (nm:Str) (us:List U) (ns:List Str) (na nk:Nat):Prop where
 name:t.name=nm
 dbg:(nm == ("__debug__" : Str))=false
 ok:zjj t.scope.names ns=true
 len:ns.length=na+nk
 ms:mSs {names:=t.scope.names,ns:=ns,no:=ns.length} us t.body=true
 co:t.scope.isCoroutine=false
 gen:t.scope.isGenerator=false
 kind:t.scope.kind = .function
 bind:∀pm c' doc (vals:List Value),vals.length=na→bindArgs (defFd t.name t.name t.params t.body t.scope mainGlobals .none .none none pm c' doc) ⟨vals,[]⟩=pure ((ns.take na).zip vals)
structure M25 (t:FnText) (X:Txt25) (qual:Str):Prop where
 name:t.name=zh 25
 body:t.body=[X.s1,.FunctionDef "inner" X.params (X.bpre++[.Expr (.Call (.Name "inner" X.c1.p) X.c1.es [] X.c1.q) X.r1,.Expr (.Call (.Name "inner" X.c2.p) X.c2.es [] X.c2.q) X.r2]) [] none [] X.scI none "inner" X.posI,
  .If (.Name "a" X.pa) [.Expr (.Call (.Name "inner" X.c3.p) X.c3.es [] X.c3.q) X.r3] [] X.pi,.Return (some (.Name "a_digits" X.pr)) X.pr2]
 co0:t.scope.isCoroutine=false
 gen0:t.scope.isGenerator=false
 kind0:t.scope.kind = .function
 bind0:∀pm c' doc (vals:List Value),vals.length=2→bindArgs (defFd t.name t.name t.params t.body t.scope mainGlobals .none .none none pm c' doc) ⟨vals,[]⟩=pure ((zfE.take 2).zip vals)
 q:∀pm c' doc L a,qualnameIn (callEnvC (defFd t.name t.name t.params t.body t.scope mainGlobals .none .none none pm c' doc) L a) "inner" "inner" = qual
 d1:X.params.defaults=[]
 d2:X.params.kw_defaults=[]
 ann:∀e,annTrees X.params none e=[]
 no:t.scope.names=zgH
 ni:X.scI.names=zdy
 co:X.scI.isCoroutine=false
 gen:X.scI.isGenerator=false
 kind:X.scI.kind = .function
 bind:∀clos doc pm cc ctv (vals:List Value),vals.length=3→bindArgs (fnX "inner" qual X.params (X.bpre++[.Expr (.Call (.Name "inner" X.c1.p) X.c1.es [] X.c1.q) X.r1,.Expr (.Call (.Name "inner" X.c2.p) X.c2.es [] X.c2.q) X.r2]) X.scI clos .none .none doc pm none cc ctv) ⟨vals,[]⟩=pure ((zfF.take 3).zip vals)
 ms:mSs {names:=zgH,ns:=zfE,no:=4} [.new 2 u25] [X.s1]=true
 mp:mSs {names:=zdy,ns:=zfF,no:=7} zgx X.bpre=true
 n1:ze X.c1.es=true
 m1:mEs {names:=zdy,ns:=zfF,no:=7} [.var 6,.var 1,.var 3] X.c1.es=true
 n2:ze X.c2.es=true
 m2:mEs {names:=zdy,ns:=zfF,no:=7} [.var 5,.var 3,.var 2] X.c2.es=true
 n3:ze X.c3.es=true
 m3:mEs {names:=zgH,ns:=zfE,no:=4} [.var 0,.lit (.int 0),.call 0 [.var 2]] X.c3.es=true
structure M26 (t:FnText) (X:Txt26) (qual:Str):Prop where
 name:t.name=zh 26
 body:t.body=[.FunctionDef "inner" X.params (X.bpre++[.Return (some (.BinOp (.BinOp (.Call (.Name "inner" X.c1.p) X.c1.es [] X.c1.q) .LShift X.esh X.r1) .Add (.Call (.Name "inner" X.c2.p) X.c2.es [] X.c2.q) X.r2)) X.r3]) [] none [] X.scI none "inner" X.posI,
  .Return (some (.IfExp (.Name "digits" X.pa) (.Call (.Name "inner" X.c3.p) X.c3.es [] X.c3.q) (.Constant (.int 0) X.kz X.pz) X.pi)) X.pr]
 co0:t.scope.isCoroutine=false
 gen0:t.scope.isGenerator=false
 kind0:t.scope.kind = .function
 bind0:∀pm c' doc (vals:List Value),vals.length=2→bindArgs (defFd t.name t.name t.params t.body t.scope mainGlobals .none .none none pm c' doc) ⟨vals,[]⟩=pure ((zhv.take 2).zip vals)
 q:∀pm c' doc L a,qualnameIn (callEnvC (defFd t.name t.name t.params t.body t.scope mainGlobals .none .none none pm c' doc) L a) "inner" "inner" = qual
 d1:X.params.defaults=[]
 d2:X.params.kw_defaults=[]
 ann:∀e,annTrees X.params none e=[]
 no:t.scope.names=zjk
 ni:X.scI.names=zcG
 co:X.scI.isCoroutine=false
 gen:X.scI.isGenerator=false
 kind:X.scI.kind = .function
 bind:∀clos doc pm cc ctv (vals:List Value),vals.length=2→bindArgs (fnX "inner" qual X.params (X.bpre++[.Return (some (.BinOp (.BinOp (.Call (.Name "inner" X.c1.p) X.c1.es [] X.c1.q) .LShift X.esh X.r1) .Add (.Call (.Name "inner" X.c2.p) X.c2.es [] X.c2.q) X.r2)) X.r3]) X.scI clos .none .none doc pm none cc ctv) ⟨vals,[]⟩=pure ((zfe.take 2).zip vals)
 mp:mSs {names:=zcG,ns:=zfe,no:=4} zgw X.bpre=true
 n1:ze X.c1.es=true
 m1:mEs {names:=zcG,ns:=zfe,no:=4} [.var 2,.var 1] X.c1.es=true
 n2:ze X.c2.es=true
 m2:mEs {names:=zcG,ns:=zfe,no:=4} [.var 0,.var 2] X.c2.es=true
 mh:mE {names:=zcG,ns:=zfe,no:=4} (.var 3) X.esh=true
 n3:ze X.c3.es=true
 m3:mEs {names:=zjk,ns:=zhv,no:=3} [.lit (.int 0),.call 0 [.var 0]] X.c3.es=true
structure M20 (t:FnText) (g:GTxt) (ns:List Str) (pa pb:Pos) (ea:Expr):Prop where
 name:t.name=zh 20
 body:t.body=g.all
 ok:g.ok {names:=t.scope.names,ns:=ns,no:=ns.length}=true
 iter:g.iter = .Call (.Name "enumerate" pa) [ea] [] pb
 mea:mE {names:=t.scope.names,ns:=ns,no:=ns.length} (.var 0) ea=true
 star:ze [ea]=true
 ke:t.scope.names.lookup ("enumerate" : Str)=some .globalImplicit
 bind:∀pm c' doc (v:Value),bindArgs (defFd t.name t.name t.params t.body t.scope mainGlobals .none .none none pm c' doc) ⟨[v],[]⟩=pure ((ns.take 1).zip [v])
 co:t.scope.isCoroutine=false
 gen:t.scope.isGenerator=true
 kind:t.scope.kind = .function
 len:ns.length=4
 nd:ns.Nodup
 dbg:ns.all (λx=>!(x == ("__debug__" : Str)))=true
 loc:ns.all (λx=>t.scope.names.lookup x == some .local)=true
 nc:t.scope.names.all (λp=>!(p.2 == .cell))=true
structure M30 (t:FnText) (x:TxtB1):Prop where
 name:t.name=zh 30
 body:t.body=[.Return (some (.Compare (.Call (.Name "ord" x.p1) [.Name "code" x.p2] [] x.p3) [.In] [.Name "b1_set" x.p4] x.p5)) x.p6]
 ns:zjj t.scope.names ["code"]=true
 ko:t.scope.names.lookup ("ord" : Str)=some .globalImplicit
 kb:t.scope.names.lookup ("b1_set" : Str)=some .globalImplicit
 bind:∀pm c' doc (vals:List Value),vals.length=1→bindArgs (defFd t.name t.name t.params t.body t.scope mainGlobals .none .none none pm c' doc) ⟨vals,[]⟩=pure (((["code"]:List Str).take 1).zip vals)
 co:t.scope.isCoroutine=false
 gen:t.scope.isGenerator=false
 kind:t.scope.kind = .function
structure M31 (t:FnText) (x:TxtB3):Prop where
 name:t.name=zh 31
 body:t.body=[.Assign [.Name "r" (x.p 1)] (.Call (.Attribute (.Name "b3_exceptions" (x.p 2)) "get" (x.p 3)) [.Call (.Name "ord" (x.p 4)) [.Name "code" (x.p 5)] [] (x.p 6)] [] (x.p 7)) (x.p 8),
 .If (.Compare (.Name "r" (x.p 9)) [.IsNot] [.Constant .none x.kc (x.p 10)] (x.p 11)) [.Return (some (.Name "r" (x.p 12))) (x.p 13)] [] (x.p 14),.Return (some (.Call (.Attribute (.Name "code" (x.p 15)) "lower" (x.p 16)) [] [] (x.p 17))) (x.p 18)]
 ns:zjj t.scope.names ["code","r"]=true
 l1:((x.p 3).endLine == (x.p 7).line)=true
 l2:((x.p 16).endLine == (x.p 17).line)=true
 ko:t.scope.names.lookup ("ord" : Str)=some .globalImplicit
 kb:t.scope.names.lookup ("b3_exceptions" : Str)=some .globalImplicit
 bind:∀pm c' doc (vals:List Value),vals.length=1→bindArgs (defFd t.name t.name t.params t.body t.scope mainGlobals .none .none none pm c' doc) ⟨vals,[]⟩=pure (((["code","r"]:List Str).take 1).zip vals)
 co:t.scope.isCoroutine=false
 gen:t.scope.isGenerator=false
 kind:t.scope.kind = .function
section
variable {prog:Program}{w:World}{sL:Shared}{mg mb:Str→Option Value}{tk0:Nat}{P1 P2:Addr}{pos1 pos2:Pos}{q1 q2:Str}{h1:sL.heap.NoLimit}{h2:sL.heap.Ns mainGlobals mg}{h3:sL.heap.Ns builtinsNs mb}{l1:mainGlobals < P1}{l2:mainGlobals < P2}{a1:sL.heap.get? P1≠none}{a2:sL.heap.get? P2≠none}
structure DefGot (W:Wd) (t:FnText) (a:Addr) (fd:FuncData):Prop where
 eq:∃pm c' doc,fd=defFd t.name t.name t.params t.body t.scope mainGlobals .none .none none pm (.ref c') doc
 obj:∀h,W.G h→h.get? a=some {cls:=.type "function",data:=.func fd}
 code:∀h,W.G h→h.CodeRec fd.code fd.qualname
theorem zkm {Pl:Addr}{t:FnText}{a:Addr} (D:zrA Pl t.name t.params t.body t.scope a sL.heap) (e1:∃ps,sL.heap.get? P1=some (tabObj ps)) (e2:∃ps,sL.heap.get? P2=some (tabObj ps)) :
  ∃fd,DefGot (Wd.two prog w sL mg mb tk0 P1 P2 pos1 pos2 q1 q2 h1 h2 h3 l1 l2 a1 a2) t a fd:=by
 obtain⟨P,h0,hP,c',doc,pm,_,_,h4,hr,hd,_,_⟩:=D
 refine xE e1 λps1 e1=>?_
 refine xE e2 λps2 e2=>?_
 refine xEA (zdi hd) λoc hoc hcc=>?_
 have n1:=zbv e1 h4 nofun
 have n2:=zbv e2 h4 nofun
 have c1:=zbv e1 hoc (by rw[hcc];exact nofun)
 have c2:=zbv e2 hoc (by rw[hcc];exact nofun)
 refine⟨_,⟨pm,c',doc,rfl⟩,λh g=>g.1 _ _ h4 n1 n2,λh g=>?_⟩
 refine zbq hr λc2' o2 vs tt ee g2 r2=>?_;clear hr
 cases ee
 exact⟨_,o2,vs,tt,rfl,g.1 _ _ g2 c1 c2,r2⟩
theorem zdd {W:Wd}{t:FnText}{a:Addr}{fd:FuncData}{body:List Stmt}{ns:List Str}{na:Nat} (G:DefGot W t a fd) (hmg:W.mg t.name=some (.ref a)) (hdb:(t.name == ("__debug__" : Str))=false) (hb:t.body=body) (co:t.scope.isCoroutine=false) (gen:t.scope.isGenerator=false) (kind:t.scope.kind = .function)
  (bind:∀pm c' doc (vals:List Value),vals.length=na→bindArgs (defFd t.name t.name t.params t.body t.scope mainGlobals .none .none none pm c' doc) ⟨vals,[]⟩=pure ((ns.take na).zip vals)):DefAt W t.name a fd body ns na∧fd.scope=t.scope:=by
 obtain⟨⟨pm,c',doc,rfl⟩,ho,hc⟩:=G
 exact⟨⟨⟨.inl hmg,hdb⟩,⟨_,rfl,ho⟩,by rw[← hb];rfl,rfl,rfl,rfl,hc,bind _ _ _,co,gen,kind⟩,rfl⟩
end
end Mine.Internal
end

noncomputable section
open PySem PySem.Calls PyProof.Rows PySem.SeqAt PySem.W
namespace Mine.Internal
structure Stands (prog:Program) (w:World) (mg:Str→Option Value) (Pl:Addr) (tds:List FnText) (sl:List Int) (R:List (Int×List Nat)) (h:Heap):Prop where
 defs:∀t∈tds,∃a,mg t.name=some (.ref a)∧zrA Pl t.name t.params t.body t.scope a h
 lim:∃v,mg "_DIV_LIMIT" = some v∧∃t,v = .int 4000 t
 set:∃v,mg "b1_set" = some v∧zrn prog w Pl (zjO sl) v h
 dict:∃v,mg "b3_exceptions" = some v∧zhe prog w Pl R v h
theorem zus:∀{kvs:List (Int×Value)}{L:List (Int×List Nat)} (i:Int),DM kvs L→match L.lookup i with | none=>valueAt kvs i=none | some y=>∃t,valueAt kvs i=some (.str (sv y) t)
 | [],[],i,_=>rfl
 | (k,v)::r,(k',y)::r',i,h=>by
  obtain⟨rfl,⟨t,rfl⟩,h2⟩:=h
  have ih:=zus i h2
  rw[List.lookup_cons]
  by_cases hk:i=k
  ·subst hk;simp only[beq_self_eq_true];exact⟨t,by simp[valueAt]⟩
  ·have h1:(i == k)=false:=by simpa using hk
   have h3:valueAt ((k,Value.str (sv y) t)::r) i=valueAt r i:=by
    unfold valueAt
    rw[List.find?_cons]
    have:(decide (k=i))=false:=decide_eq_false λe=>hk e.symm
    simp[this]
   rw[h1,h3]
   exact ih
 | [],_::_,_,h=>h.elim
 | _::_,[],_,h=>h.elim
structure Texts (tds:List FnText) (tbl:List PD):Prop where
 plain:∀q∈tbl,∃t∈tds,PMatch t (zh q.id) q.us q.ns q.na q.nk
 small:tbl.all (λp=>decide (p.id < 1000))=true
 tak:∀p∈tbl,p.id=63→p.us=zT∧p.na=5∧p.nk=3
 free:([20,25,26,30,31,50,99]++List.range 10).all (λf=>(tbl.find? (λ(p:PD)=>p.id == f)).isNone)=true
 gen:∃t∈tds,∃g ns pa pb ea,M20 t g ns pa pb ea
 f25:∃t∈tds,∃X qual,M25 t X qual∧∀t'∈tds,True
 f26:∃t∈tds,∃X qual,M26 t X qual
 f30:∃t∈tds,∃x,M30 t x
 f31:∃t∈tds,∃x,M31 t x
theorem zcR {W:Wd}{x y:Str}{a:Addr}{fd:FuncData}{body:List Stmt}{ns:List Str}{na:Nat} (D:DefAt W x a fd body ns na) (e:x=y):DefAt W y a fd body ns na:=e▸D
section
variable {prog:Program}{w:World}{sL:Shared}{mg mb:Str→Option Value}{tk0:Nat}{P1 P2:Addr}{pos1 pos2:Pos}{q1 q2:Str}{h1:sL.heap.NoLimit}{h2:sL.heap.Ns mainGlobals mg}{h3:sL.heap.Ns builtinsNs mb}{l1:mainGlobals < P1}{l2:mainGlobals < P2}{a1:sL.heap.get? P1≠none}{a2:sL.heap.get? P2≠none}
theorem zdF {P c:Addr}{h:Heap}{ps:Array Value}{o:Obj} (e1:h.get? P=some (tabObj ps)) (e2:h.get? c=some o) (hd:∀vs,o.data≠.fields vs):c≠P:=by
 rintro rfl
 rw[e1]at e2;cases e2;exact hd _ rfl
structure Bis (mg mb:Str→Option Value):Prop where
 f:∀f,f < 8→mg (zh f)=none∧mb (zh f)=some (zbY f)
 range:mg (zh 8)=none∧mb (zh 8)=some (.type "range")
 rev:mg (zh 9)=none∧mb (zh 9)=some (.type "reversed")
 enum:mg "enumerate" = none∧mb "enumerate" = some (.type "enumerate")
set_option maxHeartbeats 1000000 in
theorem zqw {Pl:Addr}{tds:List FnText}{tbl:List PD}{sl:List Int}{R:List (Int×List Nat)} (S:Stands prog w mg Pl tds sl R sL.heap) (B:Bis mg mb) (hstat:∃mc,sL.heap.Ns cStatics mc∧mc sharingNotToldKey=none) (ht:0 < tk0)
  (hb:∃bm o,mg "__builtins__" = some (.ref bm)∧bm≠builtinsNs∧bm≠mainGlobals∧sL.heap.get? bm=some o∧o.cls = .type "module"∧o.dict=some builtinsNs∧o.data = .plain)
  (X:Texts tds tbl) {t25 t26:FnText}{X25:Txt25}{X26:Txt26} (i25:t25∈tds) (i26:t26∈tds) (m25:M25 t25 X25 q1) (m26:M26 t26 X26 q2) (hp1:X25.posI=pos1) (hp2:X26.posI=pos2)
  (c25:∃a c pm doc,mg t25.name=some (.ref a)∧sL.heap.get? a=some {cls:=.type "function",data:=.func (defFd t25.name t25.name t25.params t25.body t25.scope mainGlobals .none .none none pm (.ref c) doc)}∧sL.heap.CodeRec (.ref c) t25.name∧CodeHd sL.heap c P1)
  (c26:∃a c pm doc,mg t26.name=some (.ref a)∧sL.heap.get? a=some {cls:=.type "function",data:=.func (defFd t26.name t26.name t26.params t26.body t26.scope mainGlobals .none .none none pm (.ref c) doc)}∧sL.heap.CodeRec (.ref c) t26.name∧CodeHd sL.heap c P2)
  (e1:sL.heap.get? P1=some (tabObj #[])) (e2:sL.heap.get? P2=some (tabObj #[])) (hne:P1≠P2) :
  HeadOk (Wd.two prog w sL mg mb tk0 P1 P2 pos1 pos2 q1 q2 h1 h2 h3 l1 l2 a1 a2) tbl (zjO sl) (λi=>R.lookup i):=by
 let W:=Wd.two prog w sL mg mb tk0 P1 P2 pos1 pos2 q1 q2 h1 h2 h3 l1 l2 a1 a2
 have dbg:∀f,f < 64→(zh f == ("__debug__" : Str))=false:=by decide
 have got:∀t∈tds,∃a fd,mg t.name=some (.ref a)∧DefGot W t a fd:=λt ht=>by
  refine xEA (S.defs t ht) λa hm D=>?_
  refine xE (zkm (prog:=prog) (w:=w) (mg:=mg) (mb:=mb) (tk0:=tk0) (pos1:=pos1) (pos2:=pos2) (q1:=q1) (q2:=q2) (h1:=h1) (h2:=h2) (h3:=h3) (l1:=l1) (l2:=l2) (a1:=a1) (a2:=a2) D ⟨_,e1⟩ ⟨_,e2⟩) λfd G=>?_
  exact⟨a,fd,hm,G⟩
 have cst:cStatics≠P1∧cStatics≠P2:=⟨Nat.ne_of_lt (Nat.lt_trans (by decide) l1),Nat.ne_of_lt (Nat.lt_trans (by decide) l2)⟩
 refine zdQ hb λbm ob hb1 hb2 hb3 hb4 hb5 hb6 hb7=>?_;clear hb
 have nb1:=zbv e1 hb4 (by rw[hb5];exact nofun)
 have nb2:=zbv e2 hb4 (by rw[hb5];exact nofun)
 have bat1:sL.heap.BuiltinsAt mg P1:=⟨bm,ob,hb1,hb2,hb3,nb1,hb4,hb5,hb6,hb7⟩
 have bat2:sL.heap.BuiltinsAt mg P2:=⟨bm,ob,hb1,hb2,hb3,nb2,hb4,hb5,hb6,hb7⟩
 refine⟨λq hq=>?_,X.small,X.tak,X.free,λf hf=>⟨.inr (B.f f hf),dbg f (by omega)⟩,λh g=>?_,ht,⟨.inr B.range,dbg 8 (by decide)⟩,⟨.inr B.rev,dbg 9 (by decide)⟩,⟨.inr B.enum,by decide⟩,?_,?_,?_,?_,?_,?_⟩
 ·refine xEA (X.plain q hq) λt ht m=>?_
  refine zav (got t ht) λa fd hm G=>?_
  refine xA (zdd (body:=t.body) (ns:=q.ns) (na:=q.na) G hm (by rw[m.name];exact m.dbg) rfl m.co m.gen m.kind m.bind) λD0 es=>?_
  rw[m.name]at D0
  exact⟨a,fd,t.body,D0,by rw[es];exact m.ok,m.len,by rw[es];exact m.ms⟩
 ·refine xEA hstat λmc hc hn=>?_;clear hstat
  exact⟨mc,hc.at λo e=>g.1 _ o e cst.1 cst.2,hn⟩
 ·refine xEA S.lim λv hv hi=>?_
  exact⟨v,⟨.inl hv,by decide⟩,hi⟩
 ·obtain⟨t,ht,g,ns,pa,pb,ea,m⟩:=X.gen
  refine zav (got t ht) λa fd hm G=>?_
  obtain⟨⟨pm,c',doc,rfl⟩,ho,hc⟩:=G
  refine λZ _ _ _ _ _ _ _ hck hk hn h=>zqO Z ⟨⟨.inl (by rw[← m.name];exact hm),by decide⟩,⟨_,rfl,ho⟩,by rw[← m.body];rfl,rfl,rfl,rfl,hc,m.bind _ _ _,m.co,m.gen,m.kind,m.len,m.nd,λx hx=>?_,λx hx=>?_,m.nc⟩ m.ok m.iter m.mea m.star m.ke ⟨.inr B.enum,by decide⟩ hck hk hn h
  ·have:=List.all_eq_true.mp m.dbg x hx;simpa using this
  ·have:=List.all_eq_true.mp m.loc x hx
   show t.scope.names.lookup x=_
   simpa using this
 ·obtain⟨a,c,pm,doc,hm,ho,hr,hd⟩:=c25
  obtain⟨a',fd,hm',G⟩:=got t25 i25
  rw[hm]at hm';cases hm'
  obtain⟨⟨pm',c',doc',rfl⟩,ho',hc'⟩:=id G
  have hsame:=ho' sL.heap ⟨λ_ _ e _ _=>e,⟨#[],e1,trivial,.inl rfl⟩,⟨#[],e2,trivial,.inl rfl⟩⟩
  rw[ho]at hsame
  have hfd:defFd t25.name t25.name t25.params t25.body t25.scope mainGlobals .none .none none pm (.ref c) doc=defFd t25.name t25.name t25.params t25.body t25.scope mainGlobals .none .none none pm' (.ref c') doc':=by
   have:=congrArg Obj.data (Option.some.inj hsame)
   exact Data.func.inj this
  obtain rfl:c=c':=by have:=congrArg FuncData.code hfd;exact Value.ref.inj this
  obtain⟨D0,es⟩:=zdd (ns:=zfE) (na:=2) G hm (by rw[m25.name];decide) m25.body m25.co0 m25.gen0 m25.kind0 m25.bind0
  have D0':=zcR D0 m25.name
  obtain⟨oc,hoc,hcc⟩:=zdi hd
  have hc2:=zbv e2 hoc (by rw[hcc];exact nofun)
  subst hp1
  intro F k Z Z0 n0 n ys hv
  exact zxc Z Z0 ⟨D0',rfl,znf (Ne.symm hne) hd hc2 bat1 bat2,λL=>m25.q pm' (.ref c) doc' L a,m25.d1,m25.d2,λL=>m25.ann (callEnvC (defFd t25.name t25.name t25.params t25.body t25.scope mainGlobals .none .none none pm' (.ref c) doc') L a),m25.no,m25.ni,m25.co,m25.gen,m25.kind,m25.bind,m25.ms,m25.mp,m25.n1,m25.m1,m25.n2,m25.m2,m25.n3,m25.m3⟩ hv
 ·obtain⟨a,c,pm,doc,hm,ho,hr,hd⟩:=c26
  obtain⟨a',fd,hm',G⟩:=got t26 i26
  rw[hm]at hm';cases hm'
  obtain⟨⟨pm',c',doc',rfl⟩,ho',hc'⟩:=id G
  have hsame:=ho' sL.heap ⟨λ_ _ e _ _=>e,⟨#[],e1,trivial,.inl rfl⟩,⟨#[],e2,trivial,.inl rfl⟩⟩
  rw[ho]at hsame
  have hfd:defFd t26.name t26.name t26.params t26.body t26.scope mainGlobals .none .none none pm (.ref c) doc=defFd t26.name t26.name t26.params t26.body t26.scope mainGlobals .none .none none pm' (.ref c') doc':=by
   have:=congrArg Obj.data (Option.some.inj hsame)
   exact Data.func.inj this
  obtain rfl:c=c':=by have:=congrArg FuncData.code hfd;exact Value.ref.inj this
  obtain⟨D0,es⟩:=zdd (ns:=zhv) (na:=2) G hm (by rw[m26.name];decide) m26.body m26.co0 m26.gen0 m26.kind0 m26.bind0
  have D0':=zcR D0 m26.name
  obtain⟨oc,hoc,hcc⟩:=zdi hd
  have hc1:=zbv e1 hoc (by rw[hcc];exact nofun)
  subst hp2
  intro F k Z Z0 n v ds hi hv
  exact zxb Z Z0 ⟨D0',rfl,zne hne hd hc1 bat1 bat2,λL=>m26.q pm' (.ref c) doc' L a,m26.d1,m26.d2,λL=>m26.ann (callEnvC (defFd t26.name t26.name t26.params t26.body t26.scope mainGlobals .none .none none pm' (.ref c) doc') L a),m26.no,m26.ni,m26.co,m26.gen,m26.kind,m26.bind,m26.mp,m26.n1,m26.m1,m26.n2,m26.m2,m26.mh,m26.n3,m26.m3⟩ hi hv
 ·refine zvD X.f30 λt ht x m=>?_
  refine zav (got t ht) λa fd hm G=>?_
  refine xA (zdd (ns:=["code"]) (na:=1) G hm (by rw[m.name];decide) m.body m.co m.gen m.kind m.bind) λD0 es=>?_
  have D0':=zcR D0 m.name
  refine zmv S.set λv hv b q3_ g1 g2 mm hs=>?_;subst q3_
  have hs2:=hs
  refine zfx hs2 λo es' ep tt ho hx hd _=>?_;clear hs2
  have n1:b≠P1:=zdF e1 ho (by rw[hd];exact nofun)
  have n2:b≠P2:=zdF e2 ho (by rw[hd];exact nofun)
  intro k ch
  exact zxa (W:=W) D0' (by rw[es];exact m.ns) ⟨.inr (B.f 6 (by decide)),by decide⟩ (by rw[es];exact m.ko) (by rw[es];exact m.kb) ⟨.inl hv,by decide⟩ (λh g=>⟨mm,by
   refine zaI hs λo es' ep tt ho r=>?_;clear hs
   exact⟨o,es',ep,tt,g.1 _ _ ho n1 n2,r⟩⟩)
 ·refine zvD X.f31 λt ht x m=>?_
  refine zav (got t ht) λa fd hm G=>?_
  refine xA (zdd (ns:=["code","r"]) (na:=1) G hm (by rw[m.name];decide) m.body m.co m.gen m.kind m.bind) λD0 es=>?_
  have D0':=zcR D0 m.name
  refine ziS S.dict λv hv d q3_ g1 g2 g3 kvs hdo hdm=>?_;subst q3_
  have hd2:=hdo
  refine zbr hd2 λo es' ep ho hx hd _=>?_;clear hd2
  have n1:d≠P1:=zdF e1 ho (by rw[hd];exact nofun)
  have n2:d≠P2:=zdF e2 ho (by rw[hd];exact nofun)
  intro k ch hl
  exact zwZ (W:=W) D0' (by rw[es];exact m.ns) m.l1 m.l2 ⟨.inr (B.f 6 (by decide)),by decide⟩ (by rw[es];exact m.ko) (by rw[es];exact m.kb) ⟨.inl hv,by decide⟩ (beq_eq_false_iff_ne.mpr (Nat.ne_of_gt g3)) (λh g=>⟨valueAt kvs,(show h.DictOf _ d kvs from by
   refine zaA hdo λo es' ep ho r=>?_;clear hdo
   exact⟨o,es',ep,g.1 _ _ ho n1 n2,r⟩).mapOf,λi=>zus i hdm⟩) hl
end
end Mine.Internal
end

noncomputable section
open PySem PySem.Calls PyProof.Rows PySem.SeqAt PySem.W
namespace Mine.Internal
inductive AfterG (p:Program) (w:World) (s₀:Shared) (mg0:Str→Option Value) (t25 t26:FnText) (tds:List FnText) (sl:List Int) (R:List (Int×List Nat)) (s':Shared):Prop
 | mk (c Pl:Addr) (sB:Shared) (ns:List (Str×Value)) (ps:Array Value) (fs:List (Heap→Prop)) (h1:s₀.heap.objs.size≤Pl) (h2:∀b o,s₀.heap.get? b=some o→sB.heap.get? b=some o) (h3:sB.os=s₀.os) (h4:MS c Pl sB mg0 ns ps fs s')
  (h5:∀t∈tds,∃a,ns.lookup t.name=some (.ref a)∧zrA Pl t.name t.params t.body t.scope a s'.heap)
  (h6:∃v,ns.lookup ("_DIV_LIMIT" : Str)=some v∧∃t,v = .int 4000 t) (h7:∃v,ns.lookup ("b1_set" : Str)=some v∧zrn p w Pl (zjO sl) v s'.heap) (h8:∃v,ns.lookup ("b3_exceptions" : Str)=some v∧zhe p w Pl R v s'.heap) (h9:∀x,(ns.lookup x).isSome=true→x∈p.boundNames)
  (a25 P25 a26 P26:Addr) (hne:P25≠P26) (m25:ns.lookup t25.name=some (.ref a25)) (D25:DefdP Pl t25.name t25.params t25.body t25.scope a25 P25 s'.heap) (m26:ns.lookup t26.name=some (.ref a26)) (D26:DefdP Pl t26.name t26.params t26.body t26.scope a26 P26 s'.heap):AfterG p w s₀ mg0 t25 t26 tds sl R s'
theorem zaC {ns:List (Str×Value)}{mg0:Str→Option Value}{x:Str}{v:Value} (h:ns.lookup x=some v):zdI ns mg0 x=some v:=by unfold zdI;rw[h];rfl
theorem zaO {ns:List (Str×Value)}{mg0:Str→Option Value}{x:Str} (h:ns.lookup x=none):zdI ns mg0 x=mg0 x:=by unfold zdI;rw[h];rfl
theorem zcB {h h':Heap} (e:h'.get? cStatics=h.get? cStatics) (k:Str):staticOf h' k=staticOf h k:=by unfold staticOf;rw[e]
noncomputable abbrev mgB (P:Params):Str→Option Value:=(boot_heap P).nsMap mainGlobals
noncomputable abbrev mbB (P:Params):Str→Option Value:=(boot_heap P).nsMap builtinsNs
theorem zbU {P:Params}{x:Str} (h:x ∉ startupNames):mgB P x=none:=Heap.nsMap_none (by rw[zlX];exact h)
theorem zaW {P:Params}{x:Str}{v:Value} (h:x≠"__name__") (e:bootBuiltins x=some v):mbB P x=some v:=(Heap.of_bltView (zbX P) (zgV P) x h).trans e
structure LawTexts (l:OpenLaw) (tds:List FnText) (tbl:List PD) (tL:FnText) (usL:List U) (nsL:List Str) (nkL:Nat) (t25 t26:FnText) (X25:Txt25) (X26:Txt26) (q1 q2:Str):Prop where
 tx:Texts tds tbl
 iL:tL∈tds
 mL:PMatch tL l.name usL nsL 1 nkL
 i25:t25∈tds
 i26:t26∈tds
 m25:M25 t25 X25 q1
 m26:M26 t26 X26 q2
 ne:t25.name≠t26.name
 hdef:l.prog.theDef l.name=some (tL.params,tL.body,tL.scope)
 d1:tL.params.defaults=[]
 d2:tL.params.kw_defaults=[]
 d3:tL.params.kwonlyargs=[]
 plain:opening l.prog=plainProg l.prog.main.scope.names
 fence:∀s,fenceModules? l.prog s=some s
 imp:importedModules l.prog.main.body=[]
 hann:hasAnns (behindTheImports l.prog)=false
 hdoc:docOf (behindTheImports l.prog)=none
 bare:l.prog.bare
 opens:opensWell l.prog=true
 frees:frees l.row.toRowW=true
 most:l.most=some 63
 bound:l.bound=none
 wr:l.writes=false
 prom:l.row.toRowW.promised
 free2:((["__package__","__loader__","__spec__","__file__","__cached__","enumerate","__builtins__"]:List Str)++(List.range 10).map zh).all (λx=>!l.prog.boundNames.contains x)=true
section
variable {l:OpenLaw}{tds:List FnText}{tbl:List PD}{tL:FnText}{usL:List U}{nsL:List Str}{nkL:Nat}{t25 t26:FnText}{X25:Txt25}{X26:Txt26}{q1 q2:Str}{sl:List Int}{R:List (Int×List Nat)}
theorem zim (H:LawTexts l tds tbl tL usL nsL nkL t25 t26 X25 X26 q1 q2) {ns:List (Str×Value)} (hb:∀x,(ns.lookup x).isSome=true→x∈l.prog.boundNames) {x:Str} (hx:x∈(["__package__","__loader__","__spec__","__file__","__cached__","enumerate","__builtins__"]:List Str)++(List.range 10).map zh):ns.lookup x=none:=by
 have:=List.all_eq_true.mp H.free2 x hx
 cases h:ns.lookup x with
 | none=>rfl
 | some v =>
  have hm:=hb x (by rw[h];rfl)
  rw[List.contains_iff_mem.mpr hm]at this
  cases this
theorem zpj (H:LawTexts l tds tbl tL usL nsL nkL t25 t26 X25 X26 q1 q2) {w:World}{s₀ s₁:Shared} (hh:s₀.heap=boot_heap w.params) (hrun:∃n t,schedN (denote table) l.prog w n (.single s₀ (topStub l.prog)) = .running (.single s₁ t)∧through t=true) (hlife:s₁.heap.life=s₀.heap.life) (hg:s₁.gens = #[]) (hos:s₁.os=s₀.os)
  (A:AfterG l.prog w s₀ (mgB w.params) t25 t26 tds sl R s₁):TopRan l.prog w s₀ s₁:=by
 obtain⟨c,Pl,sB,ns,ps,fs,hPl,hk,ho,M,hd,hl,hs,hdi,hb,_⟩:=A
 have keep:∀b o,s₀.heap.get? b=some o→b≠mainGlobals→s₁.heap.get? b=some o:=λb o e n=>M.keep b o (Nat.ne_of_lt (Nat.lt_of_lt_of_le (Heap.lt_size e) hPl)) n (hk b o e)
 have same:∀b:Addr,b < 11→b≠mainGlobals→(∃o,s₀.heap.get? b=some o)→s₁.heap.get? b=s₀.heap.get? b:=λb _ n ⟨o,e⟩=>by rw[e];exact keep b o e n
 have est:s₁.heap.get? cStatics=s₀.heap.get? cStatics:=same _ (by decide) (by decide) (by rw[hh];refine zaA (Heap.Ns.of_isNs (zgW w.params)) λo es ep e _=>?_;exact⟨o,e⟩)
 have ebl:s₁.heap.get? builtinsNs=s₀.heap.get? builtinsNs:=same _ (by decide) (by decide) (by rw[hh];refine zaA (Heap.Ns.of_isNs (zbX w.params)) λo es ep e _=>?_;exact⟨o,e⟩)
 have eg:∀x,globalOf s₁.heap x=zdI ns (mgB w.params) x:=λx=>PySem.Claim2Try.globalOf_of_ns M.main.g x
 have eg0:∀x,globalOf s₀.heap x=mgB w.params x:=λx=>by rw[hh];exact Pin.globalOf_eq (zgX w.params) x
 refine⟨hrun,hlife,Shared.rest_eq hos,λb o e n=>keep b o e λq=>n (.inl q),?_,λk=>.inl (zcB est k),PySem.Pin.keysAreStrs_of_ns M.main.g,λx hx=>?_,?_,λg hg'=>by rw[hg]at hg';simp at hg',λx v hx=>?_,λx hx=>?_⟩
 ·have a:=Heap.accountedI_of_ok (znT w.params)
  rw[H.imp]
  unfold staticsAccountedI at a ⊢
  simp only[zcB est,hh]
  exact a
 ·have:builtinOf s₁.heap x=builtinOf s₀.heap x:=by unfold builtinOf;rw[ebl]
  rw[this,hh]
  exact(Pin.builtinOf_eq (zbX w.params) x).trans (Heap.of_bltView (zbX w.params) (zgV w.params) x hx)
 ·refine zeP M.main.bmod λbm o h1 h2 h3 h4 h5 h6 h7 h8=>?_
  exact⟨bm,o,(eg _).trans h1,h5,h6,h7⟩
 ·rw[eg]at hx
  cases hq:ns.lookup x with
  | some u=>exact .inr (hb x (by rw[hq];rfl))
  | none =>
   rw[zaO hq]at hx
   refine .inl (Decidable.byContradiction λn=>?_)
   rw[zbU n]at hx;cases hx
 ·rw[eg,eg0]
  refine zaO (zim H hb (List.mem_append_left _ ?_))
  simp only[laidNames,List.mem_cons,List.not_mem_nil,or_false]at hx ⊢
  rcases hx with rfl | rfl | rfl | rfl | rfl<;>simp
end
end Mine.Internal
end

noncomputable section
open PySem PySem.Calls PyProof.Rows PySem.SeqAt PySem.W
namespace Mine.Internal
theorem zem:∀{xs:List WData},WShape.hasItems [] xs .int=true→∃is:List Int,xs=is.map .int
 | [],_=>⟨[],rfl⟩
 | x::xs,h=>by
  refine zj (show(WShape.has [] x .int && WShape.hasItems [] xs .int)=true from h) λh1 h2=>?_
  refine xE (zem h2) λis q1_=>?_;subst q1_
  cases x<;>first | (exact⟨_::is,rfl⟩) | exact(Bool.false_ne_true h1).elim
theorem zjL {args:List WData} (h:WShape.hasAll [] args [.list .int]=true):∃is:List Int,args=[.list (is.map .int)]:=by
 refine zbb (hasAllW_cons h) λd r q2_ h1 h2=>?_;subst q2_
 obtain rfl:=hasAllW_nil h2
 cases d with
 | list xs =>
  refine xE (zem (xs:=xs) ((orT (show(WShape.hasItems [] xs .int || false)=true from h1)).elim id nofun)) λis q1_=>?_;subst q1_
  exact⟨is,rfl⟩
 | _=>exact(Bool.false_ne_true h1).elim
noncomputable def zru:List Int→Tok→List Value
 | [],_=>[]
 | i::r,t=>.int i t::zru r (t+1)
theorem ziv {R:WRecords}{cl:Str→Option Addr}{P:Params}{ord:List DictEntry→List DictEntry}:∀(is:List Int) (s:Shared),layAllW R cl P ord (is.map .int) s=some (zru is s.toks,{s with toks:=s.toks+is.length})
 | [],s=>rfl
 | i::is,s=>by
  simp only[List.map_cons,layAllW,layW,ziv is]
  rw[show ∀t,zru (i::is) t = .int i t::zru is (t+1) from λ_=>rfl,List.length_cons]
  rw[Nat.add_assoc,Nat.add_comm 1]
theorem ziw {h:Heap}{X:Addr→Prop}:∀(is:List Int) (t:Tok),RVs h X (is.map .int) (zru is t)
 | [],_=>RVs.nil
 | i::is,t=>.cons (zi.mpr ⟨_,rfl⟩) (ziw is _)
theorem zni {l:OpenLaw}{is:List Int} (hm:l.most=some 63) (hb:l.bound=none) (h:l.row.toRowW.pre.holds [] {args:=[.list (is.map .int)]}=true):is.length≤63:=by
 have e:l.row.toRowW.pre=l.pre:=rfl
 rw[e]at h
 unfold OpenLaw.pre at h
 rw[hm,hb]at h
 have e2:WTm.holds [] (.and (.not (.lt (.lit (.int (63:Nat))) (.len (.arg 0)))) (.lit (.bool true))) {args:=[.list (is.map .int)]}=WTm.holds [] (.and (.not (.lit (.bool (decide ((63:Int) < ((is.map WData.int).length:Int)))))) (.lit (.bool true))) {args:=[]}:=by kernel_rfl
 have h2:=e2.symm.trans h
 cases hd:decide ((63:Int) < ((is.map WData.int).length:Int)) with
 | true=>rw[hd]at h2;exact absurd h2 (by decide +kernel)
 | false=>have h3:=of_decide_eq_false hd;rw[List.length_map]at h3;omega
theorem zph {prog:Program}{w:World}{sL s':Shared}{mg mb:Str→Option Value}{tk0:Nat}{P1 P2 c1 c2:Addr}{pos1 pos2:Pos}{q1 q2:Str}{h1:sL.heap.NoLimit}{h2:sL.heap.Ns mainGlobals mg}{h3:sL.heap.Ns builtinsNs mb}{l1:mainGlobals < P1}{l2:mainGlobals < P2}{a1:sL.heap.get? P1≠none}{a2:sL.heap.get? P2≠none}
  (x:Stp (Wd.two prog w sL mg mb tk0 P1 P2 pos1 pos2 q1 q2 h1 h2 h3 l1 l2 a1 a2) sL s') (e1:sL.heap.get? P1=some (tabObj #[])) (e2:sL.heap.get? P2=some (tabObj #[])) (d1:CodeHd sL.heap c1 P1) (d2:CodeHd sL.heap c2 P2):OldK sL.heap s'.heap:=by
 have g:=x.g
 refine⟨λb o e=>?_,λb o e=>?_⟩
 ·by_cases n1:b=P1
  ·subst n1
   rw[e1]at e;cases e
   refine xE g.2.1.get λps hp=>?_
   exact .inr (.inl ⟨(d1.tab e1).isCodeTable,rfl,#[],ps,rfl,by rw[hp];simp⟩)
  ·by_cases n2:b=P2
   ·subst n2
    rw[e2]at e;cases e
    refine xE g.2.2.get λps hp=>?_
    exact .inr (.inl ⟨(d2.tab e2).isCodeTable,rfl,#[],ps,rfl,by rw[hp];simp⟩)
   ·exact .inl (g.1 b o e n1 n2)
 ·by_cases n1:b=P1
  ·subst n1;refine xE g.2.1.get λps hp=>?_;exact⟨_,hp⟩
  ·by_cases n2:b=P2
   ·subst n2;refine xE g.2.2.get λps hp=>?_;exact⟨_,hp⟩
   ·exact⟨o,g.1 b o e n1 n2⟩
section
variable {l:OpenLaw}{tds:List FnText}{tbl:List PD}{tL:FnText}{usL:List U}{nsL:List Str}{nkL:Nat}{t25 t26:FnText}{X25:Txt25}{X26:Txt26}{q1 q2:Str}{sl:List Int}{R:List (Int×List Nat)}
theorem zkN {is:List Int}:l.row.toRowW.claim.post [.list (is.map .int)] (.bool true) [.list (is.map .int)]=true:=by
 show(WShape.has [] (.bool true) .bool && WTm.holds [] (.eq .res (.lit (.bool true))) {args:=[.list (is.map .int)],res:=some (.bool true),after:=[.list (is.map .int)]})=true
 kernel_rfl
set_option maxHeartbeats 1000000 in
theorem znt (H:LawTexts l tds tbl tL usL nsL nkL t25 t26 X25 X26 q1 q2) {w:World}{s₀ s₁:Shared} (hh:s₀.heap=boot_heap w.params) (htk:1≤s₁.toks) (hz:s₁.asleep) (hg:s₁.gens = #[])
  (A:AfterG l.prog w s₀ (mgB w.params) t25 t26 tds sl R s₁)
  (pure:∀is:List Int,is.length≤63→zbJ (FL tbl (zjO sl) (λi=>R.lookup i) 1000 60) 1000 nkL usL [.list (is.map .int)]=some (.bool true)) {free:Addr→Prop}{kept:Heap→Prop} (hkept:∀h',kept h') :
  l.row.toRowW.claim.CallFrom (callStub l.name) w free (l.writes=false) kept s₁:=by
 obtain⟨c,Pl,sB,ns,ps,fs,hPl,hk,ho,M,hd,hlim,hset,hdict,hb,b25,P1,b26,P2,hne,hm25,D25,hm26,D26⟩:=A
 have e0:(callStub l.name)=λvs=>(⟨do match ← nsGet mainNs l.name with
   | some f=>do ret (← call f vs)
   | none=>unsupported "claim.caller:no-such-global",.builtin "claim.caller" {},default,[]⟩:Thread):=rfl
 rw[e0]
 refine ClaimW.callFrom_of_specG (c:=l.row.toRowW.claim) (gens:=(l.writes=false)) hz hg λargs hpre hlay ord hord=>?_
 refine xA (pre_splitW hpre) λhsh hp=>?_
 refine xE (zjL (show WShape.hasAll [] args [.list .int]=true from hsh)) λis q1_=>?_;subst q1_
 have hlen:=zni H.most H.bound hp
 let s₂:Shared:={s₁ with heap:=s₁.heap.push {cls:=.type "list",data:=.seq (zru is s₁.toks).toArray},toks:=s₁.toks+is.length}
 have hlaid:layAllW l.row.toRowW.claim.records (classAt s₁.heap) w.params ord [.list (is.map .int)] s₁=some ([.ref s₁.heap.objs.size],s₂):=by
  simp only[layAllW,layW,ziv]
  rfl
 have keeps:=layAllW_keeps _ _ _ hlaid
 have hal:=layAllW_rest _ _ _ hlaid
 refine zdx (reads_layAllW hord _ _ _ hlaid hlay s₂.heap (λ_ _ e=>e)) λas hrd hin hold=>?_
 have L:PySem.W.Laid l.row.toRowW.claim.records w s₁ s₂ [.list (is.map .int)] [.ref s₁.heap.objs.size] as:=⟨⟨ord,hord,hlaid⟩,hrd,hin,hold,keeps,hal.1.trans hg,hal.2.2.1⟩
 refine⟨_,_,hlaid,?_⟩
 refine zka (frees_parts H.frees) λhsame hu ha hap hmm=>?_
 have hi:=ident_freeW hu ha hap
 have keep0:∀b o,s₀.heap.get? b=some o→b≠mainGlobals→s₂.heap.get? b=some o:=λb o e n=>keeps _ _ (M.keep b o (Nat.ne_of_lt (Nat.lt_of_lt_of_le (Heap.lt_size e) hPl)) n (hk b o e))
 have hst:s₂.heap.Ns cStatics ((boot_heap w.params).nsMap cStatics):=(Heap.Ns.of_isNs (zgW w.params)).at λo e=>keep0 _ o (by rw[hh];exact e) (by decide)
 have hst0:∀x,(boot_heap w.params).nsMap cStatics x=none:=λx=>Heap.nsMap_none (by rw[zfV];simp)
 have h1:s₂.heap.NoLimit:=⟨_,hst,hst0 _⟩
 have h2:s₂.heap.Ns mainGlobals (zdI ns (mgB w.params)):=M.main.g.keeps keeps
 have h3:s₂.heap.Ns builtinsNs (mbB w.params):=(Heap.Ns.of_isNs (zbX w.params)).at λo e=>keep0 _ o (by rw[hh];exact e) (by decide)
 have kb:KB Pl s₁.heap s₂.heap:=KB.of keeps
 have D25':=D25.kb kb
 have D26':=D26.kb kb
 obtain⟨hlow,hPa,c1,doc1,pm1,hc1,hP1,ho1,hr1,hd1,ht1,hne1⟩:=D25'
 obtain⟨_,hPa2,c2,doc2,pm2,hc2,hP2,ho2,hr2,hd2,ht2,hne2⟩:=D26'
 have l1:mainGlobals < P1:=Nat.lt_trans hlow hP1
 have l2:mainGlobals < P2:=Nat.lt_trans hlow hP2
 have a1:s₂.heap.get? P1≠none:=by rw[ht1];exact nofun
 have a2:s₂.heap.get? P2≠none:=by rw[ht2];exact nofun
 let W:=Wd.two l.prog w s₂ (zdI ns (mgB w.params)) (mbB w.params) 1 P1 P2 X25.posI X26.posI q1 q2 h1 h2 h3 l1 l2 a1 a2
 have S:Stands l.prog w (zdI ns (mgB w.params)) Pl tds sl R s₂.heap :=
  ⟨λt ht=>let ⟨a,e,D⟩:=hd t ht;⟨a,zaC e,D.kb kb⟩,let ⟨v,e,r⟩:=hlim;⟨v,zaC e,r⟩,let ⟨v,e,r⟩:=hset;⟨v,zaC e,r.kb kb⟩,let ⟨v,e,r⟩:=hdict;⟨v,zaC e,r.kb kb⟩⟩
 have nb:∀x,x∈(["__package__","__loader__","__spec__","__file__","__cached__","enumerate","__builtins__"]:List Str)++(List.range 10).map zh→ns.lookup x=none:=λx hx=>zim H hb hx
 have fin:∀f,f < 10→zh f∈(["__package__","__loader__","__spec__","__file__","__cached__","enumerate","__builtins__"]:List Str)++(List.range 10).map zh:=λf hf=>List.mem_append_right _ (List.mem_map.mpr ⟨f,List.mem_range.mpr hf,rfl⟩)
 have startNo:∀f,f < 10→zh f ∉ startupNames:=by decide
 have B:Bis (zdI ns (mgB w.params)) (mbB w.params) :=
  ⟨λf hf=>⟨(zaO (nb _ (fin f (by omega)))).trans (zbU (startNo f (by omega))),by
    match f,hf with
    | 0,_=>exact zaW (by decide) (by kernel_rfl)
    | 1,_=>exact zaW (by decide) (by kernel_rfl)
    | 2,_=>exact zaW (by decide) (by kernel_rfl)
    | 3,_=>exact zaW (by decide) (by kernel_rfl)
    | 4,_=>exact zaW (by decide) (by kernel_rfl)
    | 5,_=>exact zaW (by decide) (by kernel_rfl)
    | 6,_=>exact zaW (by decide) (by kernel_rfl)
    | 7,_=>exact zaW (by decide) (by kernel_rfl)
    | f+8,hf=>omega⟩,
   ⟨(zaO (nb _ (fin 8 (by decide)))).trans (zbU (startNo 8 (by decide))),zaW (by decide) (by kernel_rfl)⟩,
   ⟨(zaO (nb _ (fin 9 (by decide)))).trans (zbU (startNo 9 (by decide))),zaW (by decide) (by kernel_rfl)⟩,
   ⟨(zaO (nb _ (List.mem_append_left _ (by simp)))).trans (zbU (by decide)),zaW (by decide) (by kernel_rfl)⟩⟩
 have bm:=zlY w.params
 have HO:HeadOk W tbl (zjO sl) (λi=>R.lookup i):=zqw S B ⟨_,hst,hst0 _⟩ (by decide)
  ⟨4,_,(zaO (nb _ (List.mem_append_left _ (by simp)))).trans bm.1,by decide,by decide,keep0 4 _ (by rw[hh];exact bm.2) (by decide),rfl,rfl,rfl⟩
  H.tx H.i25 H.i26 H.m25 H.m26 rfl rfl ⟨b25,c1,pm1,doc1,zaC hm25,ho1,hr1,hd1⟩ ⟨b26,c2,pm2,doc2,zaC hm26,ho2,hr2,hd2⟩ ht1 ht2 hne
 have Z:=zkA (N:=1000) HO 60
 refine xEA (hd tL H.iL) λaL hmL DL=>?_
 refine xE (zkm (prog:=l.prog) (w:=w) (mg:=zdI ns (mgB w.params)) (mb:=mbB w.params) (tk0:=1) (pos1:=X25.posI) (pos2:=X26.posI) (q1:=q1) (q2:=q2) (h1:=h1) (h2:=h2) (h3:=h3) (l1:=l1) (l2:=l2) (a1:=a1) (a2:=a2) (DL.kb kb) ⟨_,ht1⟩ ⟨_,ht2⟩) λfdL GL=>?_
 refine xA (zdd (body:=tL.body) (ns:=nsL) (na:=1) GL (zaC hmL) (by rw[H.mL.name];exact H.mL.dbg) rfl H.mL.co H.mL.gen H.mL.kind H.mL.bind) λD0 es=>?_
 have FN:=zqD (nk:=nkL) Z (zcR D0 H.mL.name) (by rw[es];exact H.mL.ok) H.mL.len (by rw[es];exact H.mL.ms) rfl (pure is hlen)
 refine zdx FN λfv fa _ ok=>?_;clear FN
 have hfv:(zdI ns (mgB w.params)) l.name=some fv:=by
  rcases fa.at_ with e | ⟨e,_⟩
  ·exact e
  ·have q:=zaC (mg0:=mgB w.params) hmL
   rw[H.mL.name]at q
   rw[show W.mg l.name=zdI ns (mgB w.params) l.name from rfl,q]at e;cases e
 have gd:Gd W s₂:=⟨⟨λ_ _ e _ _=>e,⟨#[],ht1,trivial,.inl rfl⟩,⟨#[],ht2,trivial,.inl rfl⟩⟩,by rw[show s₂.gens = #[] from hg];exact λy hy=>by simp at hy⟩
 have hnx:∀P,s₂.heap.get? P=some (tabObj #[])→s₁.heap.objs.size≠P:=λP e=>zbv e (Heap.get?_push_size _ rfl) nofun
 have hv:RVs s₂.heap W.X [.list (is.map .int)] [.ref s₁.heap.objs.size]:=RVs.one (zy.mpr ⟨_,_,rfl,zaB _ _,λq=>by
  rcases q with q | q
  ·exact hnx _ ht1 q
  ·exact hnx _ ht2 q,ziw is _⟩)
 refine wpAny_bind (wpAny_nsGet (a:=mainNs) h2 ?_)
 rw[hfv]
 refine wpAny_bind (ok callerA s₂ _ ⟨rfl,by decide,by decide⟩ gd (show 1≤s₁.toks+is.length by omega) hv _ _ λr s' x hr=>wpAny_pure ⟨_,rfl,?_⟩)
 obtain rfl:=zhr.mp hr
 have g:GoodWG l.row.toRowW.claim (classAt s₁.heap) (ExcName.means s₁.heap) [.list (is.map .int)] s₂ (.ok (.ret (.bool true))) s' :=
  ⟨.inl ⟨.bool true,.bool true,[],rfl,λcls=>rfl,.bool true,zkN,λ_=>⟨List.nodup_nil,λa h=>nomatch h⟩⟩,zph x ht1 ht2 hd1 hd2,x.os,x.bare⟩
 have z:=g.laid (c:=l.row.toRowW.claim) hsame rfl hi L
 exact⟨z.1,z.2.1,z.2.2,hkept _⟩
end
end Mine.Internal
end

noncomputable section
open PySem PySem.Calls PyProof.Rows PySem.SeqAt PySem.W
namespace Mine.Internal
section
variable {l:OpenLaw}{tds:List FnText}{tbl:List PD}{tL:FnText}{usL:List U}{nsL:List Str}{nkL:Nat}{t25 t26:FnText}{X25:Txt25}{X26:Txt26}{q1 q2:Str}{sl:List Int}{R:List (Int×List Nat)}
theorem law_hand (H:LawTexts l tds tbl tL usL nsL nkL t25 t26 X25 X26 q1 q2) (said:l.row.wellSaid=true)
  (walk:∀(w:World) (s₀:Shared),s₀.heap=boot_heap w.params→∀(A:Around) (c Pl F:Addr) (sB:Shared),Rm 0 A→s₀.heap.objs.size≤Pl→(∀b o,s₀.heap.get? b=some o→sB.heap.get? b=some o)→sB.os=s₀.os→MS c Pl sB (mgB w.params) [] #[] [] sB →
   wpAny (model l.prog w) A (execs (behindTheImports l.prog) (mainEnv l.prog c F)) (λf s'=>AfterG l.prog w s₀ (mgB w.params) t25 t26 tds sl R s'∧s'.gens = #[]) (λ_ _=>False) sB)
  (pure:∀is:List Int,is.length≤63→zbJ (FL tbl (zjO sl) (λi=>R.lookup i) 1000 60) 1000 nkL usL [.list (is.map .int)]=some (.bool true)):l.row.Holds:=by
 refine⟨said,H.prom,⟨H.bare,H.opens,rfl⟩,H.prom.witness,λw=>?_⟩
 refine xEA (Option.map_eq_some_iff.mp (boot_open (N:=600) H.plain rfl H.fence w)) λs₀ hf0 hv=>?_
 refine xEA (Option.bind_eq_some_iff.mp (show(importEnds treeTable (opening l.prog) w 600 (start (opening l.prog)).1 (start (opening l.prog)).2).bind (fenceModules? l.prog)=some s₀ from hf0)) λs h4 h5=>?_
 rw[← table_eq_tree]at h4
 have A0:=AfterImport.of_importEnds h4
 refine⟨⟨s,A0⟩,λs' hs'=>?_⟩
 obtain rfl:s'=s:=AfterImport.unique hs' A0
 simp only[Prod.mk.injEq]at hv
 refine zeR hv λhh hg0 _ htk=>?_;clear hv
 have hz:s₀.asleep:=by
  refine⟨?_,?_⟩
  ·rw[hh];exact(zgY w.params).1
  ·rw[hh];exact(zgY w.params).2
 have bm:=zlY w.params
 have hw:=zkr (prog:=l.prog) (w:=w) (s₀:=s₀) (P:=λs'=>AfterG l.prog w s₀ (mgB w.params) t25 t26 tds sl R s'∧s'.os=s₀.os) (mg0:=mgB w.params) (by rw[hh];exact Heap.Ns.of_isNs (zgX w.params))
  ⟨4,_,bm.1,by decide,by decide,by rw[hh];exact bm.2,rfl,rfl,rfl⟩ hg0 H.hann H.hdoc λA' c Pl F sB hA hPl hk ho M=>wpAny_mono (walk w s₀ hh A' c Pl F sB hA hPl hk ho M) (λf s' q=>⟨⟨q.1,by
   obtain⟨_,_,_,_,_,_,_,_,e1,M',_⟩:=q.1
   exact M'.os.trans e1⟩,q.2⟩) λ_ _ x=>x
 obtain⟨s₁,hrun,hlife,hg1,⟨AG,hos⟩,ht1⟩:=zmH (R:=λs'=>(AfterG l.prog w s₀ (mgB w.params) t25 t26 tds sl R s'∧s'.os=s₀.os)∧1≤s'.toks) hz
  (wpAny_with_toks (n:=1) (by rw[htk,zmI];decide) (wpAny_mono hw (λfin s' q ht=>⟨q.1,⟨q.2.1,ht⟩,q.2.2⟩) λ_ _ x=>x.elim))
 have TR:=zpj H hh hrun hlife hg1 hos AG
 refine⟨s₀,h5,hg0,s₁,TR,λn hn=>?_,(λx hx=>nomatch hx),(λx hx=>nomatch hx),znt H hh ht1 (Shared.asleep_of_life hlife hz) hg1 AG pure λh' q=>?_⟩
 ·have hn':n=l.name:=by
   have:n∈[l.name]:=hn
   simpa using this
  subst hn'
  obtain⟨c,Pl,sB,ns,ps,fs,hPl,hk,ho,M,hd,_⟩:=AG
  obtain⟨a,hm,P,h0,h1,c',doc,pm,_,_,hob,_⟩:=hd tL H.iL
  rw[H.mL.name]at hm
  refine⟨a,_,_,tL.params,tL.body,tL.scope,(PySem.Claim2Try.globalOf_of_ns M.main.g _).trans (zaC hm),hob,rfl,H.hdef,H.mL.name,H.mL.name,rfl,rfl,rfl,rfl,rfl,rfl,.inl ⟨H.d1,rfl⟩,[],?_,.inl ⟨rfl,rfl⟩⟩
  rw[H.d2,H.d3];rfl
 ·have:l.writes=true:=q
  rw[H.wr]at this;cases this
end
end Mine.Internal
end

noncomputable section
open PySem PySem.Calls PyProof.Rows PySem.SeqAt PySem.W
set_option maxRecDepth 100000
set_option maxHeartbeats 4000000
namespace Mine.Internal
noncomputable def zuu:Option Stmt→List (Option Expr)
 | some (.Assign _ (.Dict ks _ _) _)=>ks
 | _=>[]
noncomputable def zut:Option Stmt→List Expr
 | some (.Assign _ (.Dict _ vs _) _)=>vs
 | _=>[]
theorem zel {ns:List (Str×Value)}{mg0:Str→Option Value}{x:Str} (h:ns.lookup x=none) (h0:mg0 x=none):zdI ns mg0 x=none:=by unfold zdI;rw[h,h0];rfl
noncomputable def zev:List Int→Bool
 | []=>true
 | [_]=>true
 | a::b::r=>decide (a < b) && zev (b::r)
theorem ziO:∀{l:List Int},zev l=true→l.Pairwise (· < ·)
 | [],_=>.nil
 | [a],_=>by simp
 | a::b::r,h=>by
  have h:=zeO (show(decide (a < b) && zev (b::r))=true from h)
  have ih:=ziO h.2
  refine .cons (λx hx=>?_) ih
  rcases List.mem_cons.mp hx with rfl | hx
  ·exact of_decide_eq_true h.1
  ·have:=(List.pairwise_cons.mp ih).1 x hx;lia
theorem zeJ {l:List Int} (h:zev l=true):l.Nodup:=(ziO h).imp λq=>Int.ne_of_lt q
theorem zju {ns:List (Str×Value)}{p:Program} (h:(ns.map (·.1)).all (λx=>p.boundNames.contains x)=true):∀x,(ns.lookup x).isSome=true→x∈p.boundNames:=λx hx=>by
 obtain⟨v,hv⟩:=Option.isSome_iff_exists.mp hx
 have:=List.all_eq_true.mp h x (List.mem_map.mpr ⟨_,mem_of_lookup hv,rfl⟩)
 exact List.contains_iff_mem.mp this
noncomputable abbrev pw2:Program:=PySem.Challenge.pw_rs0223_02
noncomputable def T2 (k:Nat):FnText:=((pw2.main.body[k]?).bind zlz).getD default
noncomputable def se2:List Expr:=[.Constant (.int 173) 0 ⟨120,14,120,17⟩,.Constant (.int 847) 0 ⟨120,19,120,22⟩,.Constant (.int 6150) 0 ⟨120,24,120,28⟩,.Constant (.int 6155) 0 ⟨120,30,120,34⟩,.Constant (.int 6156) 0 ⟨120,36,120,40⟩,.Constant (.int 6157) 0 ⟨120,42,120,46⟩,.Constant (.int 8203) 0 ⟨120,48,120,52⟩,.Constant (.int 8204) 0 ⟨120,54,120,58⟩,.Constant (.int 8205) 0 ⟨120,60,120,64⟩,.Constant (.int 8288) 0 ⟨120,66,120,70⟩,.Constant (.int 65279) 0 ⟨120,72,120,77⟩]
noncomputable def sl2:List Int:=[173,847,6150,6155,6156,6157,8203,8204,8205,8288,65279]++[65024,65025,65026,65027,65028,65029,65030,65031,65032,65033,65034,65035,65036,65037,65038,65039]
noncomputable def dk2:List (Option Expr):=zuu pw2.main.body[15]?
noncomputable def dv2:List Expr:=zut pw2.main.body[15]?
noncomputable def R2:List (Int×List Nat):=(zbN dk2 dv2).getD []
theorem zdG:pw2.main.scope.kind = .module:=by kernel_rfl
theorem zrZ:TOk pw2 (T2 2):=⟨by kernel_rfl,by kernel_rfl,by kernel_rfl,λe=>by kernel_rfl,zr (by kernel_rfl),by kernel_rfl,by kernel_rfl,by decide +kernel⟩
theorem zrY:TOk pw2 (T2 3):=⟨by kernel_rfl,by kernel_rfl,by kernel_rfl,λe=>by kernel_rfl,zr (by kernel_rfl),by kernel_rfl,by kernel_rfl,by decide +kernel⟩
theorem zrX:TOk pw2 (T2 4):=⟨by kernel_rfl,by kernel_rfl,by kernel_rfl,λe=>by kernel_rfl,zr (by kernel_rfl),by kernel_rfl,by kernel_rfl,by decide +kernel⟩
theorem zrW:TOk pw2 (T2 5):=⟨by kernel_rfl,by kernel_rfl,by kernel_rfl,λe=>by kernel_rfl,zr (by kernel_rfl),by kernel_rfl,by kernel_rfl,by decide +kernel⟩
theorem zrV:TOk pw2 (T2 6):=⟨by kernel_rfl,by kernel_rfl,by kernel_rfl,λe=>by kernel_rfl,zr (by kernel_rfl),by kernel_rfl,by kernel_rfl,by decide +kernel⟩
theorem zrU:TOk pw2 (T2 7):=⟨by kernel_rfl,by kernel_rfl,by kernel_rfl,λe=>by kernel_rfl,zr (by kernel_rfl),by kernel_rfl,by kernel_rfl,by decide +kernel⟩
theorem zrT:TOk pw2 (T2 9):=⟨by kernel_rfl,by kernel_rfl,by kernel_rfl,λe=>by kernel_rfl,zr (by kernel_rfl),by kernel_rfl,by kernel_rfl,by decide +kernel⟩
theorem zpt:TOk pw2 (T2 10):=⟨by kernel_rfl,by kernel_rfl,by kernel_rfl,λe=>by kernel_rfl,zr (by kernel_rfl),by kernel_rfl,by kernel_rfl,by decide +kernel⟩
theorem zps:TOk pw2 (T2 11):=⟨by kernel_rfl,by kernel_rfl,by kernel_rfl,λe=>by kernel_rfl,zr (by kernel_rfl),by kernel_rfl,by kernel_rfl,by decide +kernel⟩
theorem zpr:TOk pw2 (T2 14):=⟨by kernel_rfl,by kernel_rfl,by kernel_rfl,λe=>by kernel_rfl,zr (by kernel_rfl),by kernel_rfl,by kernel_rfl,by decide +kernel⟩
theorem zpq:TOk pw2 (T2 16):=⟨by kernel_rfl,by kernel_rfl,by kernel_rfl,λe=>by kernel_rfl,zr (by kernel_rfl),by kernel_rfl,by kernel_rfl,by decide +kernel⟩
theorem zpp:TOk pw2 (T2 18):=⟨by kernel_rfl,by kernel_rfl,by kernel_rfl,λe=>by kernel_rfl,zr (by kernel_rfl),by kernel_rfl,by kernel_rfl,by decide +kernel⟩
theorem zpo:TOk pw2 (T2 19):=⟨by kernel_rfl,by kernel_rfl,by kernel_rfl,λe=>by kernel_rfl,zr (by kernel_rfl),by kernel_rfl,by kernel_rfl,by decide +kernel⟩
theorem zpn:TOk pw2 (T2 20):=⟨by kernel_rfl,by kernel_rfl,by kernel_rfl,λe=>by kernel_rfl,zr (by kernel_rfl),by kernel_rfl,by kernel_rfl,by decide +kernel⟩
theorem zpm:TOk pw2 (T2 21):=⟨by kernel_rfl,by kernel_rfl,by kernel_rfl,λe=>by kernel_rfl,zr (by kernel_rfl),by kernel_rfl,by kernel_rfl,by decide +kernel⟩
theorem zpl:TOk pw2 (T2 22):=⟨by kernel_rfl,by kernel_rfl,by kernel_rfl,λe=>by kernel_rfl,zr (by kernel_rfl),by kernel_rfl,by kernel_rfl,by decide +kernel⟩
theorem zpk:TOk pw2 (T2 23):=⟨by kernel_rfl,by kernel_rfl,by kernel_rfl,λe=>by kernel_rfl,zr (by kernel_rfl),by kernel_rfl,by kernel_rfl,by decide +kernel⟩
theorem hR2:zbN dk2 dv2=some R2:=by kernel_rfl
theorem zwV:R2≠[]:=λh=>absurd (show R2.isEmpty=false from by kernel_rfl) (by rw[h];decide)
theorem zwW:zev (R2.map (·.1))=true:=by kernel_rfl
theorem ztW:Nat.ble R2.length 4096=true:=by kernel_rfl
theorem zwU:R2.length≤sizeLine:=Nat.le_trans (Nat.le_of_ble_eq_true ztW) (by decide)
@[irreducible] noncomputable def zhp:Stmt:=.Assign [.Name "b3_exceptions" ⟨123,0,123,13⟩] (.Dict dk2 dv2 ⟨123,16,123,8704⟩) ⟨123,0,123,8704⟩
theorem ziW (w:World) (mg0:Str→Option Value) (A:Around) (c Pl F:Addr) (sB s:Shared) (ns:List (Str×Value)) (ps:Array Value) (fs:List (Heap→Prop)) (M:MS c Pl sB mg0 ns ps fs s) (Q:PySem.Flow→Shared→Prop) (E:Value→Shared→Prop)
  (K:∀v s',MS c Pl sB mg0 (("b3_exceptions",v)::ns) ps (zhe pw2 w Pl R2 v::fs) s'→Q .next s'):wpAny (model pw2 w) A (exec zhp (mainEnv pw2 c F)) Q E s:=by
 unfold zhp
 exact @zqg pw2 w c Pl F sB s mg0 ns ps fs A E "b3_exceptions" dk2 dv2 R2 ⟨123,0,123,13⟩ ⟨123,16,123,8704⟩ ⟨123,0,123,8704⟩ Q M (by decide) (by kernel_rfl) zdG hR2 zwV (zeJ zwW) zwU K
noncomputable def zrc:List Stmt:=[.Assign [.Name "__name__" ⟨1,0,1,8⟩] (.Constant (.str "cpy313._pylong") 0 ⟨1,11,1,27⟩) ⟨1,0,1,27⟩,
 .Assign [.Name "_DIV_LIMIT" ⟨2,0,2,10⟩] (.Constant (.int 4000) 0 ⟨2,13,2,17⟩) ⟨2,0,2,17⟩,
 zbw (T2 2),
 zbw (T2 3),
 zbw (T2 4),
 zbw (T2 5),
 zbw (T2 6),
 zbw (T2 7),
 .Assign [.Name "__name__" ⟨76,0,76,8⟩] (.Constant (.str "cpy313.email.utils") 0 ⟨76,11,76,31⟩) ⟨76,0,76,31⟩,
 zbw (T2 9),
 zbw (T2 10),
 zbw (T2 11),
 .Assign [.Name "__name__" ⟨119,0,119,8⟩] (.Constant (.str "cpy313.stringprep") 0 ⟨119,11,119,30⟩) ⟨119,0,119,30⟩,
 .Assign [.Name "b1_set" ⟨120,0,120,6⟩] (.Call (.Name "set" ⟨120,9,120,12⟩) [.BinOp (.List se2 ⟨120,13,120,78⟩) .Add (.Call (.Name "list" ⟨120,81,120,85⟩) [.Call (.Name "range" ⟨120,86,120,91⟩) [.Constant (.int 65024) 0 ⟨120,92,120,97⟩,.Constant (.int 65040) 0 ⟨120,99,120,104⟩] [] ⟨120,86,120,105⟩] [] ⟨120,81,120,106⟩) ⟨120,13,120,106⟩] [] ⟨120,9,120,107⟩) ⟨120,0,120,107⟩,
 zbw (T2 14),
 zhp,
 zbw (T2 16),
 .Assign [.Name "__name__" ⟨129,0,129,8⟩] (.Constant (.str "law_rs0223_02") 0 ⟨129,11,129,26⟩) ⟨129,0,129,26⟩,
 zbw (T2 18),
 zbw (T2 19),
 zbw (T2 20),
 zbw (T2 21),
 zbw (T2 22),
 zbw (T2 23)]
theorem znU:behindTheImports pw2=zrc:=by kernel_rfl
noncomputable def zsb:List FnText:=[T2 2,T2 3,T2 4,T2 5,T2 6,T2 7,T2 9,T2 10,T2 11,T2 14,T2 16,T2 18,T2 19,T2 20,T2 21,T2 22,T2 23]
theorem zvN (w:World) (s₀:Shared) (mg0 mb:Str→Option Value) (hbl:s₀.heap.Ns builtinsNs mb) (n1:mg0 "set" = none) (n2:mg0 "list" = none) (n3:mg0 "range" = none) (b1:mb "set" = some (.type "set")) (b2:mb "list" = some (.type "list")) (b3:mb "range" = some (.type "range"))
  (A:Around) (c Pl F:Addr) (sB:Shared) (hA:Rm 0 A) (hPl:s₀.heap.objs.size≤Pl) (hk:∀b o,s₀.heap.get? b=some o→sB.heap.get? b=some o) (hos:sB.os=s₀.os) (M0:MS c Pl sB mg0 [] #[] [] sB) :
  wpAny (model pw2 w) A (execs zrc (mainEnv pw2 c F)) (λf s'=>AfterG pw2 w s₀ mg0 (T2 4) (T2 5) zsb sl2 R2 s'∧s'.gens = #[]) (λ_ _=>False) sB:=by
 unfold zrc
 refine wpAny_execs_cons (zir M0 (by decide) (by kernel_rfl) zdG λv0 s0 M1=>?_)
 refine wpAny_execs_cons (ztF M1 (by decide) (by kernel_rfl) zdG λv1 s1 M2=>?_)
 refine zI zrZ zdG M2 (by kernel_rfl) λa2 P2 c2 s2 hf2 M3=>?_
 refine zI zrY zdG M3 (by kernel_rfl) λa3 P3 c3 s3 hf3 M4=>?_
 refine zI zrX zdG M4 (by kernel_rfl) λa4 P4 c4 s4 hf4 M5=>?_
 refine zI zrW zdG M5 (by kernel_rfl) λa5 P5 c5 s5 hf5 M6=>?_
 refine zI zrV zdG M6 (by kernel_rfl) λa6 P6 c6 s6 hf6 M7=>?_
 refine zI zrU zdG M7 (by kernel_rfl) λa7 P7 c7 s7 hf7 M8=>?_
 refine wpAny_execs_cons (zir M8 (by decide) (by kernel_rfl) zdG λv8 s8 M9=>?_)
 refine zI zrT zdG M9 (by kernel_rfl) λa9 P9 c9 s9 hf9 M10=>?_
 refine zI zpt zdG M10 (by kernel_rfl) λa10 P10 c10 s10 zwT M11=>?_
 refine zI zps zdG M11 (by kernel_rfl) λa11 P11 c11 s11 hf11 M12=>?_
 refine wpAny_execs_cons (zir M12 (by decide) (by kernel_rfl) zdG λv12 s12 M13=>?_)
 refine wpAny_execs_cons (ztE (L1:=[173,847,6150,6155,6156,6157,8203,8204,8205,8288,65279]) (L2:=[65024,65025,65026,65027,65028,65029,65030,65031,65032,65033,65034,65035,65036,65037,65038,65039]) M13 (by decide) (by kernel_rfl) zdG hA (hbl.keeps hk) (zel (by kernel_rfl) n1) (zel (by kernel_rfl) n2) (zel (by kernel_rfl) n3) b1 b2 b3 (by kernel_rfl) (by decide) (by decide) (by decide) (by decide) (by kernel_rfl) (by decide) (by decide) λv13 s13 M14=>?_)
 refine zI zpr zdG M14 (by kernel_rfl) λa14 P14 c14 s14 hf14 M15=>?_
 refine wpAny_execs_cons (ziW w mg0 A c Pl F sB _ _ _ _ M15 _ _ λv15 s15 M16=>?_)
 refine zI zpq zdG M16 (by kernel_rfl) λa16 P16 c16 s16 hf16 M17=>?_
 refine wpAny_execs_cons (zir M17 (by decide) (by kernel_rfl) zdG λv17 s17 M18=>?_)
 refine zI zpp zdG M18 (by kernel_rfl) λa18 P18 c18 s18 hf18 M19=>?_
 refine zI zpo zdG M19 (by kernel_rfl) λa19 P19 c19 s19 hf19 M20=>?_
 refine zI zpn zdG M20 (by kernel_rfl) λa20 P20 c20 s20 hf20 M21=>?_
 refine zI zpm zdG M21 (by kernel_rfl) λa21 P21 c21 s21 hf21 M22=>?_
 refine zI zpl zdG M22 (by kernel_rfl) λa22 P22 c22 s22 hf22 M23=>?_
 refine zI zpk zdG M23 (by kernel_rfl) λa23 P23 c23 s23 hf23 M24=>?_
 refine wpAny_execs_nil ⟨⟨c,Pl,sB,_,_,_,hPl,hk,hos,M24,?_,?_,?_,?_,zju (p:=pw2) (by kernel_rfl),a4,P4,a5,P5,(M5.hold _ (.head _)).ne hf5,by kernel_rfl,M24.hold _ (by exact .tail _ (.tail _ (.tail _ (.tail _ (.tail _ (.tail _ (.tail _ (.tail _ (.tail _ (.tail _ (.tail _ (.tail _ (.tail _ (.tail _ (.tail _ (.tail _ (.tail _ (.tail _ (.tail _ (.head _)))))))))))))))))))),by kernel_rfl,M24.hold _ (by exact .tail _ (.tail _ (.tail _ (.tail _ (.tail _ (.tail _ (.tail _ (.tail _ (.tail _ (.tail _ (.tail _ (.tail _ (.tail _ (.tail _ (.tail _ (.tail _ (.tail _ (.tail _ (.head _)))))))))))))))))))⟩,M24.gens⟩
 ·exact fa ⟨a2,by kernel_rfl,P2,M24.hold _ (by exact .tail _ (.tail _ (.tail _ (.tail _ (.tail _ (.tail _ (.tail _ (.tail _ (.tail _ (.tail _ (.tail _ (.tail _ (.tail _ (.tail _ (.tail _ (.tail _ (.tail _ (.tail _ (.tail _ (.tail _ (.tail _ (.head _))))))))))))))))))))))⟩ (fa ⟨a3,by kernel_rfl,P3,M24.hold _ (by exact .tail _ (.tail _ (.tail _ (.tail _ (.tail _ (.tail _ (.tail _ (.tail _ (.tail _ (.tail _ (.tail _ (.tail _ (.tail _ (.tail _ (.tail _ (.tail _ (.tail _ (.tail _ (.tail _ (.tail _ (.head _)))))))))))))))))))))⟩ (fa ⟨a4,by kernel_rfl,P4,M24.hold _ (by exact .tail _ (.tail _ (.tail _ (.tail _ (.tail _ (.tail _ (.tail _ (.tail _ (.tail _ (.tail _ (.tail _ (.tail _ (.tail _ (.tail _ (.tail _ (.tail _ (.tail _ (.tail _ (.tail _ (.head _))))))))))))))))))))⟩ (fa ⟨a5,by kernel_rfl,P5,M24.hold _ (by exact .tail _ (.tail _ (.tail _ (.tail _ (.tail _ (.tail _ (.tail _ (.tail _ (.tail _ (.tail _ (.tail _ (.tail _ (.tail _ (.tail _ (.tail _ (.tail _ (.tail _ (.tail _ (.head _)))))))))))))))))))⟩ (fa ⟨a6,by kernel_rfl,P6,M24.hold _ (by exact .tail _ (.tail _ (.tail _ (.tail _ (.tail _ (.tail _ (.tail _ (.tail _ (.tail _ (.tail _ (.tail _ (.tail _ (.tail _ (.tail _ (.tail _ (.tail _ (.tail _ (.head _))))))))))))))))))⟩ (fa ⟨a7,by kernel_rfl,P7,M24.hold _ (by exact .tail _ (.tail _ (.tail _ (.tail _ (.tail _ (.tail _ (.tail _ (.tail _ (.tail _ (.tail _ (.tail _ (.tail _ (.tail _ (.tail _ (.tail _ (.tail _ (.head _)))))))))))))))))⟩ (fa ⟨a9,by kernel_rfl,P9,M24.hold _ (by exact .tail _ (.tail _ (.tail _ (.tail _ (.tail _ (.tail _ (.tail _ (.tail _ (.tail _ (.tail _ (.tail _ (.tail _ (.tail _ (.tail _ (.head _)))))))))))))))⟩ (fa ⟨a10,by kernel_rfl,P10,M24.hold _ (by exact .tail _ (.tail _ (.tail _ (.tail _ (.tail _ (.tail _ (.tail _ (.tail _ (.tail _ (.tail _ (.tail _ (.tail _ (.tail _ (.head _))))))))))))))⟩ (fa ⟨a11,by kernel_rfl,P11,M24.hold _ (by exact .tail _ (.tail _ (.tail _ (.tail _ (.tail _ (.tail _ (.tail _ (.tail _ (.tail _ (.tail _ (.tail _ (.tail _ (.head _)))))))))))))⟩ (fa ⟨a14,by kernel_rfl,P14,M24.hold _ (by exact .tail _ (.tail _ (.tail _ (.tail _ (.tail _ (.tail _ (.tail _ (.tail _ (.tail _ (.head _))))))))))⟩ (fa ⟨a16,by kernel_rfl,P16,M24.hold _ (by exact .tail _ (.tail _ (.tail _ (.tail _ (.tail _ (.tail _ (.tail _ (.head _))))))))⟩ (fa ⟨a18,by kernel_rfl,P18,M24.hold _ (by exact .tail _ (.tail _ (.tail _ (.tail _ (.tail _ (.head _))))))⟩ (fa ⟨a19,by kernel_rfl,P19,M24.hold _ (by exact .tail _ (.tail _ (.tail _ (.tail _ (.head _)))))⟩ (fa ⟨a20,by kernel_rfl,P20,M24.hold _ (by exact .tail _ (.tail _ (.tail _ (.head _))))⟩ (fa ⟨a21,by kernel_rfl,P21,M24.hold _ (by exact .tail _ (.tail _ (.head _)))⟩ (fa ⟨a22,by kernel_rfl,P22,M24.hold _ (by exact .tail _ (.head _))⟩ (fa ⟨a23,by kernel_rfl,P23,M24.hold _ (by exact .head _)⟩ (λ_ h=>nomatch h)))))))))))))))))
 ·exact⟨v1,by kernel_rfl,M24.hold _ (by exact .tail _ (.tail _ (.tail _ (.tail _ (.tail _ (.tail _ (.tail _ (.tail _ (.tail _ (.tail _ (.tail _ (.tail _ (.tail _ (.tail _ (.tail _ (.tail _ (.tail _ (.tail _ (.tail _ (.tail _ (.tail _ (.tail _ (.head _)))))))))))))))))))))))⟩
 ·exact⟨v13,by kernel_rfl,M24.hold _ (by exact .tail _ (.tail _ (.tail _ (.tail _ (.tail _ (.tail _ (.tail _ (.tail _ (.tail _ (.tail _ (.head _)))))))))))⟩
 ·exact⟨v15,by kernel_rfl,M24.hold _ (by exact .tail _ (.tail _ (.tail _ (.tail _ (.tail _ (.tail _ (.tail _ (.tail _ (.head _)))))))))⟩
end Mine.Internal
end

noncomputable section
open PySem PySem.Builtin.Int
namespace Mine.Internal
theorem zP {m:Nat}{x:Int}:intBits x≤m↔x.natAbs < 2 ^ m:=PySem.intBits_le_iff
theorem zah {m:Nat}{x:Int} (h0:0≤x) (h:x < 2 ^ m):intBits x≤m:=by
 rw[zP]
 have e:((2 ^ m:Nat):Int)=2 ^ m:=by simp
 lia
theorem zhD {x:Int} (h0:0≤x):x < 2 ^ intBits x:=by
 have:=(zP (m:=intBits x) (x:=x)).mp (Nat.le_refl _)
 have e:((2 ^ intBits x:Nat):Int)=2 ^ intBits x:=by simp
 lia
theorem zlZ {x:Int}{m:Nat} (h:2 ^ m≤x):m+1≤intBits x:=by
 have h2:¬intBits x≤m:=λh3=>by
  have:=zP.mp h3
  have e:((2 ^ m:Nat):Int)=2 ^ m:=by simp
  lia
 lia
theorem znV {x:Int} (h:0 < x):0 < intBits x∧2 ^ (intBits x - 1)≤x∧x < 2 ^ intBits x:=by
 have h1:0 < intBits x:=by
  have:¬intBits x≤0:=λh3=>by have:=zP.mp h3;simp at this;lia
  lia
 refine⟨h1,?_,zhD (by lia)⟩
 apply Int.not_lt.mp
 intro h2
 have:=zah (by lia) h2
 lia
theorem zgZ {x y:Int} (hx:0≤x) (hy:0≤y):Builtin.bitAnd x y=((x.toNat &&& y.toNat:Nat):Int):=by
 unfold Builtin.bitAnd
 simp[hx,hy]
theorem znW {x y:Int} (hx:0≤x) (hy:0≤y):Builtin.bitOr x y=((x.toNat ||| y.toNat:Nat):Int):=by
 unfold Builtin.bitOr Builtin.bitAnd Builtin.bitNot
 have h1:¬0≤-x - 1:=by lia
 have h2:¬0≤-y - 1:=by lia
 simp only[decide_eq_false h1,decide_eq_false h2]
 have e1:(-(-x - 1) - 1).toNat=x.toNat:=by congr 1;lia
 have e2:(-(-y - 1) - 1).toNat=y.toNat:=by congr 1;lia
 rw[e1,e2]
 lia
theorem zey {a:Int}{h:Nat} (ha:0≤a):Builtin.bitAnd a (2 ^ h - 1)=a % 2 ^ h:=by
 have hp:(0:Int) < 2 ^ h:=Int.pow_pos (by decide)
 rw[zgZ ha (by lia)]
 have e:((2:Int) ^ h - 1).toNat=2 ^ h - 1:=by
  have:((2 ^ h:Nat):Int)=2 ^ h:=by simp
  lia
 rw[e,Nat.and_two_pow_sub_one_eq_mod]
 rw[Int.natCast_emod,Int.toNat_of_nonneg ha]
 simp
theorem zlW {q r:Int}{h:Nat} (hq:0≤q) (hr:0≤r) (hl:r < 2 ^ h):Builtin.bitOr (q*2 ^ h) r=q*2 ^ h+r:=by
 have hp:(0:Int) < 2 ^ h:=Int.pow_pos (by decide)
 rw[znW (Int.mul_nonneg hq (Int.le_of_lt hp)) hr]
 refine xE (Int.eq_ofNat_of_zero_le hq) λa q1_=>?_;subst q1_
 refine xE (Int.eq_ofNat_of_zero_le hr) λb q1_=>?_;subst q1_
 have e:((a:Int)*2 ^ h).toNat=a <<< h:=by
  rw[Nat.shiftLeft_eq]
  have:((a*2 ^ h:Nat):Int)=(a:Int)*2 ^ h:=by simp
  lia
 have hb:b < 2 ^ h:=by
  have:((2 ^ h:Nat):Int)=2 ^ h:=by simp
  lia
 rw[e,Int.toNat_natCast,← Nat.shiftLeft_add_eq_or_of_lt hb,Nat.shiftLeft_eq]
 simp
theorem znQ {x:Int}{s:Nat} (hx:0≤x):Builtin.bitXor x (x / 2 ^ s*2 ^ s)=x % 2 ^ s:=by
 have hp:(0:Int) < 2 ^ s:=Int.pow_pos (by decide)
 rw[PyProof.Rows.bitXor_and]
 have h0:0≤x / 2 ^ s*2 ^ s:=Int.mul_nonneg (Int.ediv_nonneg hx (Int.le_of_lt hp)) (Int.le_of_lt hp)
 rw[zgZ hx h0]
 refine xE (Int.eq_ofNat_of_zero_le hx) λa q1_=>?_;subst q1_
 have e:((a:Int) / 2 ^ s*2 ^ s).toNat=a / 2 ^ s*2 ^ s:=by
  have:((a / 2 ^ s*2 ^ s:Nat):Int)=(a:Int) / 2 ^ s*2 ^ s:=by simp
  lia
 rw[e,Int.toNat_natCast]
 have e2:a &&& (a / 2 ^ s*2 ^ s)=a / 2 ^ s*2 ^ s:=by
  rw[← Nat.shiftRight_eq_div_pow,← Nat.shiftLeft_eq]
  apply Nat.eq_of_testBit_eq
  intro i
  simp only[Nat.testBit_and,Nat.testBit_shiftLeft,Nat.testBit_shiftRight]
  by_cases hi:s≤i
  ·simp[hi,Nat.add_sub_cancel' hi]
  ·simp[hi]
 rw[e2]
 have:((a / 2 ^ s*2 ^ s:Nat):Int)=(a:Int) / 2 ^ s*2 ^ s:=by simp
 have e3:=Int.mul_ediv_add_emod (a:Int) (2 ^ s)
 rw[Int.mul_comm]at e3
 lia
theorem zJ {a b:Int} (h:0≤b):a.fdiv b=a / b:=Int.fdiv_eq_ediv_of_nonneg a h
theorem zbW {a b:Int} (h:0≤b):a.fmod b=a % b:=Int.fmod_eq_emod_of_nonneg a h
theorem zdh {A q b r:Int} (h:A=q*b+r) (h0:0≤r) (h1:r < b):A / b=q∧A % b=r:=by
 subst h
 have hb:b≠0:=by lia
 constructor
 ·rw[Int.add_comm,Int.add_mul_ediv_right _ _ hb,Int.ediv_eq_zero_of_lt h0 h1];lia
 ·rw[Int.add_comm,Int.add_mul_emod_self_right,Int.emod_eq_of_lt h0 h1]
theorem zjB {a b:Int} (hb:b≠0) (h:intBits a≤intBits b+4000):zby a b=true:=by
 unfold zby Builtin.divisionGoesByPylong
 unfold intBits at h
 simp only[bne_iff_ne,ne_eq,hb,not_false_eq_true,Bool.and_eq_true,Bool.not_eq_true',Bool.and_eq_false_iff,decide_eq_false_iff_not,gt_iff_lt,Nat.not_lt,true_and,beq_iff_eq,if_false]
 simp only[beq_iff_eq,hb,if_false]at h
 right
 split<;>simp_all<;>lia
theorem zcp {a b:Int} (hb:b≠0) (h:intBits b≤9000):zby a b=true:=by
 unfold zby Builtin.divisionGoesByPylong
 unfold intBits at h
 simp only[bne_iff_ne,ne_eq,hb,not_false_eq_true,Bool.and_eq_true,Bool.not_eq_true',Bool.and_eq_false_iff,decide_eq_false_iff_not,gt_iff_lt,Nat.not_lt,true_and,beq_iff_eq,if_false]
 simp only[beq_iff_eq,hb,if_false]at h
 left
 lia
end Mine.Internal
end

noncomputable section
open PySem PySem.Builtin.Int
namespace Mine.Internal
theorem zrJ {F:Fns}{N':Nat}{a12 a3 b b1 b2 n:Int}{o8:List (Option B)} (hb:0 < b):∀(N:Nat) (q r:Int),r < b→-((N:Int)*b)≤r →
  ∃q' r',q*b+r=q'*b+r'∧0≤r'∧r' < b ∧
   zjN (λρ=>tr F ρ (.val (.cmp .Lt (.var 7) (.lit (.int 0))))) (λρ=>exs F N' ρ [.aug 6 .Sub (.lit (.int 1)),.aug 7 .Add (.var 2)]) (N+1)
    [some (.fz (.int a12)),some (.fz (.int a3)),some (.fz (.int b)),some (.fz (.int b1)),some (.fz (.int b2)),some (.fz (.int n)),some (.fz (.int q)),some (.fz (.int r))] =
   some (.next,[some (.fz (.int a12)),some (.fz (.int a3)),some (.fz (.int b)),some (.fz (.int b1)),some (.fz (.int b2)),some (.fz (.int n)),some (.fz (.int q')),some (.fz (.int r'))])
 | 0,q,r,h1,h2=>by
  have h0:0≤r:=by simpa using h2
  refine⟨q,r,rfl,h0,h1,?_⟩
  exact zof (zai (zax (p:=false) rfl rfl (congrArg some (decide_eq_false (Int.not_lt.mpr h0)))) rfl)
 | N+1,q,r,h1,h2=>by
  by_cases h0:0≤r
  ·refine⟨q,r,rfl,h0,h1,?_⟩
   exact zof (zai (zax (p:=false) rfl rfl (congrArg some (decide_eq_false (Int.not_lt.mpr h0)))) rfl)
  ·have hr:r < 0:=(Int.lt_of_not_ge h0)
   obtain⟨q',r',e,h3,h4,h5⟩:=zrJ (F:=F) (N':=N') (a12:=a12) (a3:=a3) (b1:=b1) (b2:=b2) (n:=n) (o8:=o8) hb N (q - 1) (r+b) (by lia) (by
    have:((N+1:Nat):Int)*b=(N:Int)*b+b:=by rw[Int.natCast_add,Int.add_mul];simp
    rw[this]at h2
    lia)
   refine⟨q',r',?_,h3,h4,?_⟩
   ·rw[← e,Int.sub_mul];lia
   ·exact zvL (zai (zax (p:=true) rfl rfl (congrArg some (decide_eq_true hr))) rfl) ((za (zbu rfl rfl rfl)).trans ((za (zbu rfl rfl rfl)).trans rfl)) h5
noncomputable def zvA (F:Fns) (n:Nat):Prop:=∀a b:Int,0≤a→2 ^ n≤2*b→b < 2 ^ n→a < b*2 ^ n→F 23 [.int a,.int b,.int n]=some (.tup [.int (a / b),.int (a % b)])
noncomputable def zyr (F:Fns) (n:Nat):Prop:=∀a12 a3 b b1 b2:Int,b=b1*2 ^ n+b2→0≤a12→0≤a3→a3 < 2 ^ n→2 ^ n≤2*b1→b1 < 2 ^ n→0≤b2→b2 < 2 ^ n→a12 < b →
 F 24 [.int a12,.int a3,.int b,.int b1,.int b2,.int n]=some (.tup [.int ((a12*2 ^ n+a3) / b),.int ((a12*2 ^ n+a3) % b)])
theorem run3 {F:Fns}{N n:Nat} (hN:4≤N) (hn:0 < n) (hn2:n≤100000) (h23:zvA F n) {a12 a3 b1 b2:Int} (g1:0≤a12) (g2:0≤a3) (g3:a3 < 2 ^ n) (g4:2 ^ n≤2*b1) (g5:b1 < 2 ^ n) (g6:0≤b2) (g7:b2 < 2 ^ n) (g8:a12 < b1*2 ^ n+b2) :
  zbJ F N 2 zat [.int a12,.int a3,.int (b1*2 ^ n+b2),.int b1,.int b2,.int n]=some (.tup [.int ((a12*2 ^ n+a3) / (b1*2 ^ n+b2)),.int ((a12*2 ^ n+a3) % (b1*2 ^ n+b2))]):=by
 have hp:(0:Int) < 2 ^ n:=Int.pow_pos (by decide)
 have hb1:0 < b1:=by lia
 have e20:(2:Nat) ^ 20=1048576:=rfl
 have hb:0 < b1*2 ^ n+b2:=Int.add_pos_of_pos_of_nonneg (Int.mul_pos hb1 hp) g6
 have key:∃q r:Int,a12=q*b1+r∧0≤q∧q < 2 ^ n∧0≤r∧r < 2 ^ (n+1)∧r*2 ^ n+a3 - q*b2 < b1*2 ^ n+b2 ∧
   ex F N [some (.fz (.int a12)),some (.fz (.int a3)),some (.fz (.int (b1*2 ^ n+b2))),some (.fz (.int b1)),some (.fz (.int b2)),some (.fz (.int n)),none,none] (zat.head!) =
    some (.next,[some (.fz (.int a12)),some (.fz (.int a3)),some (.fz (.int (b1*2 ^ n+b2))),some (.fz (.int b1)),some (.fz (.int b2)),some (.fz (.int n)),some (.fz (.int q)),some (.fz (.int r))]):=by
  by_cases hc:a12 / 2 ^ n=b1
  ·have e1:b1*2 ^ n≤a12:=by
    have:=Int.ediv_mul_le a12 (Int.ne_of_gt hp);rw[hc]at this;exact this
   have e2:a12 < b1*2 ^ n+2 ^ n:=by
    have:=Int.lt_ediv_add_one_mul_self a12 hp;rw[hc,Int.add_mul,Int.one_mul]at this;exact this
   refine⟨2 ^ n - 1,a12 - b1*2 ^ n+b1,?_,(Int.sub_nonneg_of_le hp),(Int.le_of_eq (Int.sub_add_cancel _ _)),by lia,?_,?_,?_⟩
   ·rw[Int.sub_mul,Int.one_mul,Int.mul_comm (2 ^ n) b1];lia
   ·rw[Int.pow_succ];lia
   ·have e3:(a12 - b1*2 ^ n+b1)*2 ^ n≤(b1+b2 - 1)*2 ^ n:=Int.mul_le_mul_of_nonneg_right (by lia) (Int.le_of_lt hp)
    have e4:(b1+b2 - 1)*2 ^ n=b1*2 ^ n+b2*2 ^ n - 2 ^ n:=by rw[Int.sub_mul,Int.add_mul,Int.one_mul]
    have e5:(2 ^ n - 1)*b2=b2*2 ^ n - b2:=by rw[Int.sub_mul,Int.one_mul,Int.mul_comm]
    lia
   ·have c1:(a12.fdiv (2 ^ n) == b1)=true:=by rw[zJ (Int.le_of_lt hp),hc];exact beq_self_eq_true b1
    have c3:intBits b1≤n:=zah (Int.le_of_lt hb1) g5
    exact zbe (zai (zax (p:=true) (zk rfl rfl (zhc rfl)) rfl (congrArg some c1)) rfl) ((za (zge (zgg (zb (zk (zk rfl rfl (zoV (Nat.lt_of_le_of_lt hn2 (by decide)))) rfl rfl) (zb (zk (zk rfl (zk rfl rfl (zjI (by lia))) rfl) rfl rfl) zm))) rfl)).trans rfl)
  ·have e1:a12 / 2 ^ n < b1:=by
    have:a12 / 2 ^ n≤b1:=by
     apply Int.le_of_lt_add_one
     apply Int.ediv_lt_of_lt_mul hp
     rw[Int.add_mul,Int.one_mul]
     exact Int.le_trans g8 (Int.add_le_add (Int.le_refl _) (Int.le_of_lt g7))
    lia
   have e2:a12 < b1*2 ^ n:=by
    have:=Int.lt_ediv_add_one_mul_self a12 hp
    exact Int.lt_of_lt_of_le this (Int.mul_le_mul_of_nonneg_right (e1) (Int.le_of_lt hp))
   have hr0:=Int.emod_nonneg a12 (Int.ne_of_gt hb1)
   have hr1:=Int.emod_lt_of_pos a12 hb1
   have hq0:0≤a12 / b1:=Int.ediv_nonneg g1 (Int.le_of_lt hb1)
   have hq1:a12 / b1 < 2 ^ n:=Int.ediv_lt_of_lt_mul hb1 (by rw[Int.mul_comm];exact e2)
   refine⟨a12 / b1,a12 % b1,?_,hq0,hq1,hr0,?_,?_,?_⟩
   ·have:=Int.mul_ediv_add_emod a12 b1;rw[Int.mul_comm]at this;exact Eq.symm this
   ·rw[Int.pow_succ];exact Int.le_trans hr1 (Int.le_trans (Int.le_of_lt g5) (zle (Nat.le_add_left _ _)))
   ·have e3:(a12 % b1)*2 ^ n≤(b1 - 1)*2 ^ n:=Int.mul_le_mul_of_nonneg_right (by lia) (Int.le_of_lt hp)
    have e4:(b1 - 1)*2 ^ n=b1*2 ^ n - 2 ^ n:=by rw[Int.sub_mul,Int.one_mul]
    have e5:0≤a12 / b1*b2:=Int.mul_nonneg hq0 g6
    lia
   ·have c1:(a12.fdiv (2 ^ n) == b1)=false:=by rw[zJ (Int.le_of_lt hp)];exact beq_eq_false_iff_ne.mpr hc
    exact zco (zai (zax (p:=false) (zk rfl rfl (zhc rfl)) rfl (congrArg some c1)) rfl) ((za (zge (zx (zb rfl (zb rfl (zb rfl zm))) (h23 a12 b1 g1 g4 g5 e2)) rfl)).trans rfl)
 refine zdQ key λq r k1 k2 k3 k4 k5 k6 k7=>?_;clear key
 have m1:0≤q*b2:=Int.mul_nonneg k2 g6
 have m2:q*b2≤2 ^ n*b2:=Int.mul_le_mul_of_nonneg_right (Int.le_of_lt k3) g6
 have m3:2 ^ n*b2≤2 ^ n*(2*b1):=Int.mul_le_mul_of_nonneg_left (Int.le_trans (Int.le_of_lt g7) g4) (Int.le_of_lt hp)
 have m4:2 ^ n*(2*b1)=2*(b1*2 ^ n):=by rw[Int.mul_left_comm,Int.mul_comm (2 ^ n) b1]
 have m5:0≤r*2 ^ n:=Int.mul_nonneg k4 (Int.le_of_lt hp)
 have lo : -((2:Nat)*(b1*2 ^ n+b2))≤r*2 ^ n+a3 - q*b2:=by
  have:((2:Nat):Int)*(b1*2 ^ n+b2)=2*(b1*2 ^ n)+2*b2:=by simp[Int.mul_add]
  lia
 obtain⟨N',rfl⟩:∃N',N=N'+2+1:=⟨N - 3,by lia⟩
 have lo' : -(((N'+2:Nat):Int)*(b1*2 ^ n+b2))≤r*2 ^ n+a3 - q*b2:=by
  refine Int.le_trans ?_ lo
  apply Int.neg_le_neg
  exact Int.mul_le_mul_of_nonneg_right (zle (Nat.le_add_left _ _)) (Int.le_of_lt hb)
 refine zar (zrJ (F:=F) (N':=N'+2+1) (a12:=a12) (a3:=a3) (b1:=b1) (b2:=b2) (n:=n) (o8:=[]) hb (N'+2) q _ k6 lo') λq' r' f1 f2 f3 f4=>?_
 have tot:a12*2 ^ n+a3=q'*(b1*2 ^ n+b2)+r':=by
  rw[← f1,k1,Int.add_mul,Int.mul_add,Int.mul_assoc];lia
 refine xA (zdh tot f2 f3) λd1 d2=>?_
 rw[d1,d2]
 have b1':intBits r≤n+1:=zah k4 k5
 have b2':intBits q≤n:=zah k2 k3
 have b3':intBits b2≤n:=zah g6 g7
 have bo:Builtin.bitOr (r*2 ^ n) a3=r*2 ^ n+a3:=zlW k4 g2 g3
 have gd:intBits r+n≤1048576:=by lia
 have gm:intBits q+intBits b2≤1048576:=by lia
 have s2:ex F (N'+2+1) [some (.fz (.int a12)),some (.fz (.int a3)),some (.fz (.int (b1*2 ^ n+b2))),some (.fz (.int b1)),some (.fz (.int b2)),some (.fz (.int n)),some (.fz (.int q)),some (.fz (.int r))] (.set 7 (.bin .Sub (.bin .BitOr (.bin .LShift (.var 7) (.var 5)) (.var 1)) (.bin .Mult (.var 6) (.var 4)))) =
   some (.next,[some (.fz (.int a12)),some (.fz (.int a3)),some (.fz (.int (b1*2 ^ n+b2))),some (.fz (.int b1)),some (.fz (.int b2)),some (.fz (.int n)),some (.fz (.int q)),some (.fz (.int (r*2 ^ n+a3 - q*b2)))]):=by
  exact zcf (zk (zk (zk rfl rfl (zjI gd)) rfl (zxy bo)) (zk rfl rfl (zmg gm)) rfl) rfl
 apply zbc
 rw[show zat=zat.head!::zat.tail from rfl]
 refine(za k7).trans ?_
 refine(za s2).trans ?_
 refine(za (show ex _ _ _ (.whl _ _)=_ by rw[zrK];exact f4)).trans ?_
 exact zO (zgg (zb rfl (zb rfl zm))) rfl
end Mine.Internal
end

noncomputable section
open PySem PySem.Builtin.Int
namespace Mine.Internal
noncomputable def zsc:List U:=zbm.drop 3
theorem zuy {F:Fns}{N h:Nat}{pad:Int} (hh:0 < h) (hn2:h≤100000) (h3:zyr F h) (hpad:pad=0∨pad=1) {a b:Int} (g1:0≤a) (g2:2 ^ (2*h)≤2*b) (g3:b < 2 ^ (2*h)) (g4:a < b*2 ^ (2*h)) :
  ∃ρ,exs F N [some (.fz (.int a)),some (.fz (.int b)),some (.fz (.int (2*h:Nat))),some (.fz (.int pad)),none,none,none,none,none,none,none] zsc =
   some (.ret (.tup [.int (a / b),.int (if pad=1 then(a % b).fdiv 2 else a % b)]),ρ):=by
 have hp:(0:Int) < 2 ^ h:=Int.pow_pos (by decide)
 have hpp:(2:Int) ^ (2*h)=2 ^ h*2 ^ h:=by rw[Nat.two_mul,Int.pow_add]
 have hb:0 < b:=by
  have:(0:Int) < 2 ^ (2*h):=Int.pow_pos (by decide)
  lia
 have c1:b / 2 ^ h*2 ^ h+b % 2 ^ h=b:=by have:=Int.mul_ediv_add_emod b (2 ^ h);rw[Int.mul_comm]at this;exact this
 have c2:=Int.emod_nonneg b (Int.ne_of_gt hp)
 have c3:=Int.emod_lt_of_pos b hp
 have c4:b / 2 ^ h < 2 ^ h:=Int.ediv_lt_of_lt_mul hp (by rw[← hpp];exact g3)
 have c5:2 ^ h≤2*(b / 2 ^ h):=by
  apply Int.not_lt.mp
  intro c
  have d1:2*(b / 2 ^ h)+1≤2 ^ h:=c
  obtain⟨m,rfl⟩:∃m,h=m+1:=⟨h - 1,by lia⟩
  have e:(2:Int) ^ (m+1)=2*2 ^ m:=by rw[Int.pow_succ,Int.mul_comm]
  have d2:b / 2 ^ (m+1)+1≤2 ^ m:=by lia
  have d3:(b / 2 ^ (m+1)+1)*2 ^ (m+1)≤2 ^ m*2 ^ (m+1):=Int.mul_le_mul_of_nonneg_right d2 (Int.le_of_lt hp)
  have d4:=Int.lt_ediv_add_one_mul_self b hp
  have d5:2*(2 ^ m*2 ^ (m+1))=(2:Int) ^ (m+1)*2 ^ (m+1):=by rw[← Int.mul_assoc,← e]
  lia
 have a1:a / 2 ^ (2*h)=a / 2 ^ h / 2 ^ h:=by rw[hpp,Int.ediv_ediv_of_nonneg (Int.le_of_lt hp)]
 have a2:0≤a / 2 ^ h:=Int.ediv_nonneg g1 (Int.le_of_lt hp)
 have a3:a / 2 ^ (2*h)*2 ^ h+(a / 2 ^ h) % 2 ^ h=a / 2 ^ h:=by rw[a1];have:=Int.mul_ediv_add_emod (a / 2 ^ h) (2 ^ h);rw[Int.mul_comm]at this;exact this
 have a4:a / 2 ^ (2*h) < b:=Int.ediv_lt_of_lt_mul (Int.pow_pos (by decide)) g4
 have C1:=h3 (a / 2 ^ (2*h)) ((a / 2 ^ h) % 2 ^ h) b (b / 2 ^ h) (b % 2 ^ h) c1.symm (Int.ediv_nonneg g1 (Int.le_of_lt (Int.pow_pos (by decide)))) (Int.emod_nonneg _ (Int.ne_of_gt hp)) (Int.emod_lt_of_pos _ hp) c5 c4 c2 c3 a4
 rw[a3]at C1
 have r1:=Int.emod_nonneg (a / 2 ^ h) (Int.ne_of_gt hb)
 have r2:=Int.emod_lt_of_pos (a / 2 ^ h) hb
 have C2:=h3 (a / 2 ^ h % b) (a % 2 ^ h) b (b / 2 ^ h) (b % 2 ^ h) c1.symm r1 (Int.emod_nonneg _ (Int.ne_of_gt hp)) (Int.emod_lt_of_pos _ hp) c5 c4 c2 c3 r2
 have l0:=Int.emod_nonneg a (Int.ne_of_gt hp)
 have l1:=Int.emod_lt_of_pos a hp
 have l2:a / 2 ^ h*2 ^ h+a % 2 ^ h=a:=by have:=Int.mul_ediv_add_emod a (2 ^ h);rw[Int.mul_comm]at this;exact this
 have e0:0≤a / 2 ^ h % b*2 ^ h+a % 2 ^ h:=by have:=Int.mul_nonneg r1 (Int.le_of_lt hp);exact Int.add_nonneg this l0
 have e1:(a / 2 ^ h % b*2 ^ h+a % 2 ^ h) < b*2 ^ h:=by
  have:(a / 2 ^ h % b)*2 ^ h≤(b - 1)*2 ^ h:=Int.mul_le_mul_of_nonneg_right (by lia) (Int.le_of_lt hp)
  rw[Int.sub_mul,Int.one_mul]at this
  lia
 have q0:0≤(a / 2 ^ h % b*2 ^ h+a % 2 ^ h) / b:=Int.ediv_nonneg e0 (Int.le_of_lt hb)
 have q1:(a / 2 ^ h % b*2 ^ h+a % 2 ^ h) / b < 2 ^ h:=Int.ediv_lt_of_lt_mul hb (by rw[Int.mul_comm (2 ^ h) b];exact e1)
 have p0:0≤a / 2 ^ h / b:=Int.ediv_nonneg a2 (Int.le_of_lt hb)
 have tot:a=(a / 2 ^ h / b*2 ^ h+(a / 2 ^ h % b*2 ^ h+a % 2 ^ h) / b)*b+(a / 2 ^ h % b*2 ^ h+a % 2 ^ h) % b:=by
  have t1:=Int.mul_ediv_add_emod (a / 2 ^ h % b*2 ^ h+a % 2 ^ h) b
  have t2:=Int.mul_ediv_add_emod (a / 2 ^ h) b
  have t3:(b*(a / 2 ^ h / b)+a / 2 ^ h % b)*2 ^ h=a / 2 ^ h*2 ^ h:=by rw[t2]
  rw[Int.add_mul]at t3 ⊢
  have t4:a / 2 ^ h / b*2 ^ h*b=b*(a / 2 ^ h / b)*2 ^ h:=by rw[Int.mul_right_comm,Int.mul_comm b]
  rw[Int.mul_comm b ((a / 2 ^ h % b*2 ^ h+a % 2 ^ h) / b)]at t1
  lia
 refine xA (zdh tot (Int.emod_nonneg _ (Int.ne_of_gt hb)) (Int.emod_lt_of_pos _ hb)) λdd1 dd2=>?_
 have B1:=zlW p0 q0 q1
 rw[dd1,dd2]
 have u1:((2*h:Nat):Int).fdiv 2=h:=by rw[zJ (by decide)];lia
 have u2:b.fdiv (2 ^ h)=b / 2 ^ h:=zJ (Int.le_of_lt hp)
 have u3:Builtin.bitAnd b (2 ^ h - 1)=b % 2 ^ h:=zey (Int.le_of_lt hb)
 have u4:a.fdiv (2 ^ (2*h))=a / 2 ^ (2*h):=zJ (Int.le_of_lt (Int.pow_pos (by decide)))
 have u5:a.fdiv (2 ^ h)=a / 2 ^ h:=zJ (Int.le_of_lt hp)
 have u6:Builtin.bitAnd (a / 2 ^ h) (2 ^ h - 1)=(a / 2 ^ h) % 2 ^ h:=zey a2
 have u7:Builtin.bitAnd a (2 ^ h - 1)=a % 2 ^ h:=zey g1
 have gd:h < 1048576:=(Nat.lt_of_le_of_lt hn2 (by decide))
 have hq:a / 2 ^ h / b < 2 ^ h:=Int.ediv_lt_of_lt_mul hb (Int.ediv_lt_of_lt_mul hp (by
  have:2 ^ h*b*2 ^ h=b*2 ^ (2*h):=by rw[hpp,Int.mul_comm (2 ^ h) b,Int.mul_assoc]
  exact Int.le_trans g4 (Int.le_of_eq (Eq.symm this))))
 have gq:intBits (a / 2 ^ h / b)+h≤1048576:=by have:=zah p0 hq;lia
 generalize hA:a / 2 ^ h / b=qa at *
 generalize hB:a / 2 ^ h % b=ra at *
 generalize hC:(ra*2 ^ h+a % 2 ^ h) / b=qb at *
 generalize hD:(ra*2 ^ h+a % 2 ^ h) % b=rb at *
 generalize hE:b / 2 ^ h=bh at *
 generalize hF:b % 2 ^ h=bl at *
 generalize hG:a % 2 ^ h=al at *
 generalize hI:a / 2 ^ (2*h)=ah at *
 generalize hJ:a / 2 ^ h % 2 ^ h=am at *
 have st1:ex F N [some (.fz (.int a)),some (.fz (.int b)),some (.fz (.int (2*h:Nat))),some (.fz (.int pad)),none,none,none,none,none,none,none] (.set 4 (.bin .RShift (.var 2) (.lit (.int 1)))) =
   some (.next,[some (.fz (.int a)),some (.fz (.int b)),some (.fz (.int (2*h:Nat))),some (.fz (.int pad)),some (.fz (.int h)),none,none,none,none,none,none]):=by
  exact zcf (zk rfl rfl (zhc (n:=1) u1)) rfl
 have st2:ex F N [some (.fz (.int a)),some (.fz (.int b)),some (.fz (.int (2*h:Nat))),some (.fz (.int pad)),some (.fz (.int h)),none,none,none,none,none,none] (.set 5 (.bin .Sub (.bin .LShift (.lit (.int 1)) (.var 4)) (.lit (.int 1)))) =
   some (.next,[some (.fz (.int a)),some (.fz (.int b)),some (.fz (.int (2*h:Nat))),some (.fz (.int pad)),some (.fz (.int h)),some (.fz (.int (2 ^ h - 1))),none,none,none,none,none]):=by
  exact zcf (zk (zk rfl rfl (zoV gd)) rfl rfl) rfl
 have st3:ex F N [some (.fz (.int a)),some (.fz (.int b)),some (.fz (.int (2*h:Nat))),some (.fz (.int pad)),some (.fz (.int h)),some (.fz (.int (2 ^ h - 1))),none,none,none,none,none] (.unp [6,7] (.tup [.bin .RShift (.var 1) (.var 4),.bin .BitAnd (.var 1) (.var 5)])) =
   some (.next,[some (.fz (.int a)),some (.fz (.int b)),some (.fz (.int (2*h:Nat))),some (.fz (.int pad)),some (.fz (.int h)),some (.fz (.int (2 ^ h - 1))),some (.fz (.int bh)),some (.fz (.int bl)),none,none,none]):=by
  exact zge (zgg (zb (zk rfl rfl (zhc u2)) (zb (zk rfl rfl (zoa u3)) zm))) rfl
 have st4:ex F N [some (.fz (.int a)),some (.fz (.int b)),some (.fz (.int (2*h:Nat))),some (.fz (.int pad)),some (.fz (.int h)),some (.fz (.int (2 ^ h - 1))),some (.fz (.int bh)),some (.fz (.int bl)),none,none,none] (.unp [8,9] (.call 24 [.bin .RShift (.var 0) (.var 2),.bin .BitAnd (.bin .RShift (.var 0) (.var 4)) (.var 5),.var 1,.var 6,.var 7,.var 4])) =
   some (.next,[some (.fz (.int a)),some (.fz (.int b)),some (.fz (.int (2*h:Nat))),some (.fz (.int pad)),some (.fz (.int h)),some (.fz (.int (2 ^ h - 1))),some (.fz (.int bh)),some (.fz (.int bl)),some (.fz (.int qa)),some (.fz (.int ra)),none]):=by
  exact zge (zx (zb (zk rfl rfl (zhc u4)) (zb (zk (zk rfl rfl (zhc u5)) rfl (zoa u6)) (zb rfl (zb rfl (zb rfl (zb rfl zm)))))) C1) rfl
 have st5:ex F N [some (.fz (.int a)),some (.fz (.int b)),some (.fz (.int (2*h:Nat))),some (.fz (.int pad)),some (.fz (.int h)),some (.fz (.int (2 ^ h - 1))),some (.fz (.int bh)),some (.fz (.int bl)),some (.fz (.int qa)),some (.fz (.int ra)),none] (.unp [10,9] (.call 24 [.var 9,.bin .BitAnd (.var 0) (.var 5),.var 1,.var 6,.var 7,.var 4])) =
   some (.next,[some (.fz (.int a)),some (.fz (.int b)),some (.fz (.int (2*h:Nat))),some (.fz (.int pad)),some (.fz (.int h)),some (.fz (.int (2 ^ h - 1))),some (.fz (.int bh)),some (.fz (.int bl)),some (.fz (.int qa)),some (.fz (.int rb)),some (.fz (.int qb))]):=by
  exact zge (zx (zb rfl (zb (zk rfl rfl (zoa u7)) (zb rfl (zb rfl (zb rfl (zb rfl zm)))))) C2) rfl
 rcases hpad with rfl | rfl
 ·refine⟨_,(za st1).trans ((za st2).trans ((za st3).trans ((za st4).trans ((za st5).trans ((za (ρ':=[some (.fz (.int a)),some (.fz (.int b)),some (.fz (.int (2*h:Nat))),some (.fz (.int 0)),some (.fz (.int h)),some (.fz (.int (2 ^ h - 1))),some (.fz (.int bh)),some (.fz (.int bl)),some (.fz (.int qa)),some (.fz (.int rb)),some (.fz (.int qb))]) ?_).trans (zO (d:=.tup [.int (qa*2 ^ h+qb),.int rb]) ?_ ?_))))))⟩
  ·exact zbf (zai (p:=false) rfl rfl)
  ·exact zgg (zb (zk (zk rfl rfl (zjI gq)) rfl (zxy B1)) (zb rfl zm))
  ·rfl
 ·refine⟨_,(za st1).trans ((za st2).trans ((za st3).trans ((za st4).trans ((za st5).trans ((za (ρ':=[some (.fz (.int a)),some (.fz (.int b)),some (.fz (.int (2*h:Nat))),some (.fz (.int 1)),some (.fz (.int h)),some (.fz (.int (2 ^ h - 1))),some (.fz (.int bh)),some (.fz (.int bl)),some (.fz (.int qa)),some (.fz (.int (rb.fdiv 2))),some (.fz (.int qb))]) ?_).trans (zO (d:=.tup [.int (qa*2 ^ h+qb),.int (rb.fdiv 2)]) ?_ ?_))))))⟩
  ·exact zbe (zai (p:=true) rfl rfl) ((za (zbu rfl rfl rfl)).trans rfl)
  ·exact zgg (zb (zk (zk rfl rfl (zjI gq)) rfl (zxy B1)) (zb rfl zm))
  ·rfl
end Mine.Internal
end

noncomputable section
open PySem PySem.Builtin.Int
namespace Mine.Internal
theorem zpi {F:Fns}{a b m:Int}:tr F [some (.fz (.int a)),some (.fz (.int b)),some (.fz (.int m)),some (.fz (.int 0)),none,none,none,none,none,none,none] (.val (.var 3))=some false:=rfl
theorem zrS {F:Fns}{a b m:Int}:tr F [some (.fz (.int a)),some (.fz (.int b)),some (.fz (.int m)),some (.fz (.int 1)),none,none,none,none,none,none,none] (.val (.var 3))=some true:=rfl
theorem zrj {a:Int}:zxB .LShift a 1=if (0:Int)≤1∧(intBits a:Int)+1≤2 ^ 20 then some (.int (a*2 ^ (1:Int).toNat)) else none:=rfl
theorem zkB {a:Int} (h:intBits a+1≤2 ^ 20):zmj .LShift (.int a) (.int 1)=some (.int (a*2)):=by
 have e:(0:Int)≤1∧(intBits a:Int)+1≤2 ^ 20:=⟨by decide,by have e20:(2:Int) ^ 20=1048576:=rfl;have e20':(2:Nat) ^ 20=1048576:=rfl;lia⟩
 rw[zob,zrj,if_pos e]
 rfl
theorem zqa {F:Fns}{N:Nat}{a b m:Int} (ba':intBits a+1≤2 ^ 20) (bb':intBits b+1≤2 ^ 20):exs F N [some (.fz (.int a)),some (.fz (.int b)),some (.fz (.int m)),some (.fz (.int 1)),none,none,none,none,none,none,none] [.aug 0 .LShift (.lit (.int 1)),.aug 1 .LShift (.lit (.int 1)),.aug 2 .Add (.lit (.int 1))] =
  some (.next,[some (.fz (.int (a*2))),some (.fz (.int (b*2))),some (.fz (.int (m+1))),some (.fz (.int 1)),none,none,none,none,none,none,none]) :=
 (za (zbu rfl rfl (zkB ba'))).trans ((za (zbu rfl rfl (zkB bb'))).trans ((za (zbu (d:=.int (m+1)) rfl rfl rfl)).trans rfl))
theorem run2 {F:Fns}{N n:Nat} (h50:F 50 []=some (.int 4000)) (h7:∀a b:Int,F 7 [.int a,.int b]=bi 7 [.int a,.int b]) (hn2:n≤100000) (h3:4000 < n→zyr F ((n+1) / 2)) {a b:Int} (g1:0≤a) (g2:2 ^ n≤2*b) (g3:b < 2 ^ n) (g4:a < b*2 ^ n) :
  zbJ F N 8 zbm [.int a,.int b,.int n]=some (.tup [.int (a / b),.int (a % b)]):=by
 have hp:(0:Int) < 2 ^ n:=Int.pow_pos (by decide)
 have hb:0 < b:=by lia
 have hn:0 < n:=by
  rcases Nat.eq_zero_or_pos n with rfl | h
  ·have:(2:Int) ^ 0=1:=rfl
   lia
  ·exact h
 have hbits:n≤intBits b:=by
  obtain⟨m,rfl⟩:∃m,n=m+1:=⟨n - 1,by lia⟩
  refine zlZ ?_
  rw[Int.pow_succ]at g2
  lia
 have r0:zbm = .ite (.val (.cmp .LtE (.bin .Sub (.meth .bits (.var 0) []) (.var 2)) (.call 50 []))) [.ret (.call 7 [.var 0,.var 1])] []::.set 3 (.bin .BitAnd (.var 2) (.lit (.int 1)))::.ite (.val (.var 3)) [.aug 0 .LShift (.lit (.int 1)),.aug 1 .LShift (.lit (.int 1)),.aug 2 .Add (.lit (.int 1))] []::zsc:=rfl
 by_cases hc:(intBits a:Int) - n≤4000
 ·have d1:zby a b=true:=zjB (Int.ne_of_gt hb) (by lia)
  apply zbc
  rw[r0]
  have e7:F 7 [.int a,.int b]=some (.tup [.int (a / b),.int (a % b)]):=by rw[h7,zxw,if_pos d1,zJ (Int.le_of_lt hb),zbW (Int.le_of_lt hb)]
  exact zaz (zbe (zai (zax (p:=true) (zk (zdU rfl zm rfl) rfl rfl) (zx zm h50) (congrArg some (decide_eq_true hc))) rfl) (zO (zx (zb rfl (zb rfl zm)) e7) rfl))
 ·have ha:intBits a≤2*n:=by
   refine zah g1 (Int.lt_of_lt_of_le g4 ?_)
   rw[Nat.two_mul,Int.pow_add]
   exact Int.mul_le_mul_of_nonneg_right (Int.le_of_lt g3) (Int.le_of_lt hp)
  have hn4:4000 < n:=by lia
  have D3:=h3 hn4
  have ba:intBits a+1≤1048576:=by lia
  have bb:intBits b+1≤1048576:=by have:=zah (Int.le_of_lt hb) g3;lia
  have ba':intBits a+1≤2 ^ 20:=ba
  have bb':intBits b+1≤2 ^ 20:=bb
  have an:Builtin.bitAnd (n:Int) 1=((n % 2:Nat):Int):=by rw[PyProof.Rows.bitAnd_m1];simp
  have s0:ex F N [some (.fz (.int a)),some (.fz (.int b)),some (.fz (.int n)),none,none,none,none,none,none,none,none] (.ite (.val (.cmp .LtE (.bin .Sub (.meth .bits (.var 0) []) (.var 2)) (.call 50 []))) [.ret (.call 7 [.var 0,.var 1])] []) =
    some (.next,[some (.fz (.int a)),some (.fz (.int b)),some (.fz (.int n)),none,none,none,none,none,none,none,none]):=by
   exact zbf (zai (zax (p:=false) (zk (zdU rfl zm rfl) rfl rfl) (zx zm h50) (congrArg some (decide_eq_false hc))) rfl)
  have s1:ex F N [some (.fz (.int a)),some (.fz (.int b)),some (.fz (.int n)),none,none,none,none,none,none,none,none] (.set 3 (.bin .BitAnd (.var 2) (.lit (.int 1)))) =
    some (.next,[some (.fz (.int a)),some (.fz (.int b)),some (.fz (.int n)),some (.fz (.int (n % 2:Nat))),none,none,none,none,none,none,none]):=by
   exact zcf (zk rfl rfl (zoa an)) rfl
  rcases Nat.mod_two_eq_zero_or_one n with he | he
  ·obtain⟨h,rfl⟩:∃h,n=2*h:=⟨n / 2,by lia⟩
   have eh:(2*h+1) / 2=h:=by lia
   rw[he]at s1
   rw[eh]at D3
   refine xE (zuy (N:=N) (pad:=0) (by lia) (by lia) D3 (.inl rfl) g1 g2 g3 g4) λρ C=>?_
   apply zbc
   rw[r0]
   refine(za s0).trans ((za s1).trans ((za (ρ':=[some (.fz (.int a)),some (.fz (.int b)),some (.fz (.int (2*h:Nat))),some (.fz (.int 0)),none,none,none,none,none,none,none]) ?_).trans C))
   exact zbf zpi
  ·obtain⟨h,rfl⟩:∃h,n=2*h - 1:=⟨(n+1) / 2,by lia⟩
   have eh:(2*h - 1+1) / 2=h:=by lia
   rw[he]at s1
   rw[eh]at D3
   have ep:(2:Int) ^ (2*h)=2*2 ^ (2*h - 1):=by
    obtain⟨m,hm⟩:∃m,2*h=m+1:=⟨2*h - 1,by lia⟩
    rw[hm,Nat.add_sub_cancel,Int.pow_succ,Int.mul_comm]
   have g4':2*a < 2*b*2 ^ (2*h):=by
    rw[ep,Int.mul_assoc]
    have:b*(2*2 ^ (2*h - 1))=2*(b*2 ^ (2*h - 1)):=Int.mul_left_comm _ _ _
    lia
   refine xE (zuy (N:=N) (pad:=1) (a:=2*a) (b:=2*b) (by lia) (by lia) D3 (.inr rfl) (by lia) (by lia) (by lia) g4') λρ C=>?_
   have e1:2*a / (2*b)=a / b:=Int.mul_ediv_mul_of_pos _ _ (by decide)
   have e2:(2*a % (2*b)).fdiv 2=a % b:=by
    rw[Int.mul_emod_mul_of_pos _ _ (by decide),zJ (by decide)]
    lia
   rw[e1,if_pos rfl,e2]at C
   apply zbc
   rw[r0]
   refine(za s0).trans ((za s1).trans ((za (ρ':=[some (.fz (.int (2*a))),some (.fz (.int (2*b))),some (.fz (.int (2*h:Nat))),some (.fz (.int 1)),none,none,none,none,none,none,none]) ?_).trans C))
   have en:((2*h - 1:Nat):Int)+1=2*(h:Int):=by lia
   have ea:a*2=2*a:=Int.mul_comm _ _
   have eb:b*2=2*b:=Int.mul_comm _ _
   refine zbe zrS ((zqa ba' bb').trans ?_)
   rw[en,ea,eb]
   rfl
structure TblOk (tbl:List PD):Prop where
 t23:∃p,tbl.find? (λp=>p.id == 23)=some p∧p.us=zbm∧p.na=3∧p.nk=8
 t24:∃p,tbl.find? (λp=>p.id == 24)=some p∧p.us=zat∧p.na=6∧p.nk=2
 t27:∃p,tbl.find? (λp=>p.id == 27)=some p∧p.us=zbQ∧p.na=2∧p.nk=7
 t28:∃p,tbl.find? (λp=>p.id == 28)=some p∧p.us=zbP∧p.na=2∧p.nk=2
 free:([20,25,26,30,31,50,99]++List.range 10).all (λf=>(tbl.find? (λ(p:PD)=>p.id == f)).isNone)=true
section
variable {tbl:List PD}{S:Int→Bool}{T:Int→Option (List Nat)}{N:Nat}
theorem zdg (X:TblOk tbl) {k f:Nat}{ds:List D} (hf:f∈([20,25,26,30,31,50,99]++List.range 10)):FL tbl S T N (k+1) f ds=zop S T k f ds:=by
 rw[zjM (by rintro rfl;exact absurd hf (by decide))]
 have:=List.all_eq_true.mp X.free f hf
 rw[show tbl.find? (λp=>p.id == f)=none by simpa using this]
theorem zep {k f:Nat}{ds:List D}{us:List U}{na nk:Nat} (h:∃p,tbl.find? (λp=>p.id == f)=some p∧p.us=us∧p.na=na∧p.nk=nk) (hf:f≠1063) (hl:ds.length=na):FL tbl S T N (k+1) f ds=zbJ (FL tbl S T N k) N nk us ds:=by
 refine zrI h λp h1 q2_ q3_ q4_=>?_;clear h;subst q2_;subst q3_;subst q4_
 rw[zjM hf,h1]
 exact if_pos hl
theorem zxd (X:TblOk tbl) {k:Nat}:FL tbl S T N (k+1) 50 []=some (.int 4000):=by rw[zdg X (by decide)];rfl
theorem zud (X:TblOk tbl) {k f:Nat}{ds:List D} (hf:f < 10):FL tbl S T N (k+1) f ds=bi f ds:=by
 rw[zdg X (by simp[List.mem_range,hf])]
 exact zeZ (by simp only[List.mem_cons,List.not_mem_nil,or_false,not_or];lia)
theorem zoO (X:TblOk tbl) (hN:4≤N):∀(j k n:Nat),n≤4000*2 ^ j→n≤100000→2*j+2≤k→zvA (FL tbl S T N k) n
 | j,k,n,h1,h2,h3=>λa b g1 g2 g3 g4=>by
  obtain⟨k,rfl⟩:∃k',k=k'+2:=⟨k - 2,by lia⟩
  rw[zep X.t23 (by decide) rfl]
  refine run2 (zxd X) (λa b=>zud X (by decide)) h2 (λh4=>?_) g1 g2 g3 g4
  match j,h1,h3 with
  | 0,h1,h3=>lia
  | j+1,h1,h3 =>
   intro a12 a3 b b1 b2 e q1 q2 q3 q4 q5 q6 q7 q8
   subst e
   rw[zep X.t24 (by decide) rfl]
   refine run3 hN (by lia) (by lia) (zoO X hN j k _ ?_ (by lia) (by lia)) q1 q2 q3 q4 q5 q6 q7 q8
   rw[Nat.pow_succ]at h1
   lia
end
end Mine.Internal
end

noncomputable section
open PySem PySem.Builtin.Int
namespace Mine.Internal
noncomputable def zfn (m:Nat):Nat→Int→List Int
 | 0,_=>[]
 | c+1,a=>(a % 2 ^ m)::zfn m c (a / 2 ^ m)
noncomputable def val (m:Nat):List Int→Int
 | []=>0
 | d::r=>d+val m r*2 ^ m
theorem zoP {m:Nat}{a:Int}:zfn m 0 a=[]:=rfl
theorem zoQ {m c:Nat}{a:Int}:zfn m (c+1) a=(a % 2 ^ m)::zfn m c (a / 2 ^ m):=rfl
theorem zdn {m:Nat}:val m []=0:=rfl
theorem zdo {m:Nat}{d:Int}{r:List Int}:val m (d::r)=d+val m r*2 ^ m:=rfl
noncomputable def InD (m:Nat) (l:List Int):Prop:=∀d∈l,0≤d∧d < 2 ^ m
theorem p2 (m:Nat):(0:Int) < 2 ^ m:=Int.pow_pos (by decide)
theorem zfR {a P M:Int} (hP:0 < P) (hM:0 < M):a % (M*P) / M=a / M % P:=by
 have t1:=Int.mul_ediv_add_emod a M
 have t2:=Int.mul_ediv_add_emod (a / M) P
 have b1:=Int.emod_nonneg a (Int.ne_of_gt hM)
 have b2:=Int.emod_lt_of_pos a hM
 have c1:=Int.emod_nonneg (a / M) (Int.ne_of_gt hP)
 have c2:=Int.emod_lt_of_pos (a / M) hP
 have e:a=a / M / P*(M*P)+(a / M % P*M+a % M):=by
  have e1:M*(a / M)=M*(P*(a / M / P)+a / M % P):=by rw[t2]
  rw[Int.mul_add]at e1
  have e2:M*(P*(a / M / P))=a / M / P*(M*P):=by rw[Int.mul_comm _ (M*P),Int.mul_assoc]
  have e3:M*(a / M % P)=a / M % P*M:=Int.mul_comm _ _
  lia
 have f1:a / M % P*M+a % M < M*P:=by
  have:(a / M % P+1)*M≤P*M:=Int.mul_le_mul_of_nonneg_right (c2) (Int.le_of_lt hM)
  rw[Int.add_mul,Int.one_mul,Int.mul_comm P M]at this
  exact Int.le_trans (Int.add_lt_add_left b2 _) this
 refine xA (zdh e (by have:=Int.mul_nonneg c1 (Int.le_of_lt hM);exact Int.add_nonneg this b1) f1) λ_ d=>?_
 rw[d]
 exact(zdh rfl b1 b2).1
theorem zfS {m:Nat}:∀{c:Nat}{a:Int},(zfn m c a).length=c
 | 0,_=>rfl
 | c+1,a=>by simp[zoP,zoQ,zfS]
theorem zlO {m:Nat}:∀{c:Nat}{a:Int},InD m (zfn m c a)
 | 0,_=>λd h=>nomatch h
 | c+1,a=>λd h=>by
  simp only[zoP,zoQ,List.mem_cons]at h
  rcases h with rfl | h
  ·exact⟨Int.emod_nonneg _ (Int.ne_of_gt (p2 m)),Int.emod_lt_of_pos _ (p2 m)⟩
  ·exact zlO d h
theorem zes {m q:Nat}:∀{p:Nat}{a:Int},0≤a→zfn m (p+q) a=zfn m p (a % 2 ^ (m*p))++zfn m q (a / 2 ^ (m*p))
 | 0,a,h=>by simp[zoP,zoQ]
 | p+1,a,h=>by
  have e:(2:Int) ^ (m*(p+1))=2 ^ m*2 ^ (m*p):=by rw[Nat.mul_succ,Nat.add_comm,Int.pow_add]
  rw[show p+1+q=(p+q)+1 from Nat.add_right_comm _ _ _]
  simp only[zoP,zoQ,List.cons_append,List.cons.injEq]
  refine⟨?_,?_⟩
  ·rw[e,Int.emod_emod_of_dvd _ ⟨_,rfl⟩]
  ·rw[zes (Int.ediv_nonneg h (Int.le_of_lt (p2 m)))]
   congr 1
   ·congr 1
    rw[e]
    exact(zfR (p2 _) (p2 m)).symm
   ·rw[e,Int.ediv_ediv_of_nonneg (Int.le_of_lt (p2 m))]
theorem zcx {m:Nat}:∀{l:List Int},InD m l→0≤val m l∧val m l < 2 ^ (m*l.length)
 | [],_=>by simp[zdn,zdo]
 | d::r,h=>by
  refine xA (h d (by simp)) λh1 h2=>?_
  refine xA (zcx (l:=r) λx hx=>h x (by simp[hx])) λh3 h4=>?_
  have e:(2:Int) ^ (m*(d::r).length)=2 ^ (m*r.length)*2 ^ m:=by rw[List.length_cons,Nat.mul_succ,Int.pow_add]
  rw[e]
  simp only[zdn,zdo]
  have a1:=Int.mul_nonneg h3 (Int.le_of_lt (p2 m))
  have a2:(val m r+1)*2 ^ m≤2 ^ (m*r.length)*2 ^ m:=Int.mul_le_mul_of_nonneg_right (h4) (Int.le_of_lt (p2 m))
  rw[Int.add_mul,Int.one_mul]at a2
  lia
theorem zhZ {m:Nat}:∀{c:Nat}{a:Int},0≤a→a < 2 ^ (m*c)→val m (zfn m c a)=a
 | 0,a,h1,h2=>by simp at h2;simp[zoP,zoQ,zdn,zdo];exact Int.le_antisymm h1 (Int.le_of_lt_add_one h2)
 | c+1,a,h1,h2=>by
  have e:(2:Int) ^ (m*(c+1))=2 ^ (m*c)*2 ^ m:=by rw[Nat.mul_succ,Int.pow_add]
  rw[e]at h2
  simp only[zoP,zoQ,zdn,zdo]
  rw[zhZ (Int.ediv_nonneg h1 (Int.le_of_lt (p2 m))) (Int.ediv_lt_of_lt_mul (p2 m) h2)]
  have:=Int.mul_ediv_add_emod a (2 ^ m)
  rw[Int.mul_comm]at this
  exact Eq.trans (Int.add_comm _ _) this
theorem ziL {m:Nat}:∀{l:List Int},InD m l→zfn m l.length (val m l)=l
 | [],_=>rfl
 | d::r,h=>by
  refine xA (h d (by simp)) λh1 h2=>?_
  simp only[List.length_cons,zoP,zoQ,zdn,zdo]
  rw[Int.add_mul_emod_self_right,Int.emod_eq_of_lt h1 h2,Int.add_mul_ediv_right _ _ (Int.ne_of_gt (p2 m)),Int.ediv_eq_zero_of_lt h1 h2,Int.zero_add,ziL λx hx=>h x (by simp[hx])]
theorem zeT {m:Nat}{l2:List Int}:∀{l1:List Int},val m (l1++l2)=val m l1+val m l2*2 ^ (m*l1.length)
 | []=>by simp[zdn,zdo]
 | d::r=>by
  have e:(2:Int) ^ (m*(d::r).length)=2 ^ (m*r.length)*2 ^ m:=by rw[List.length_cons,Nat.mul_succ,Int.pow_add]
  rw[e,List.cons_append]
  simp only[zdn,zdo]
  rw[zeT,Int.add_mul,Int.mul_assoc]
  lia
noncomputable def msv (m:Nat) (v:Int) (l:List Int):Int:=l.foldl (λv d=>v*2 ^ m+d) v
theorem zhy {m:Nat}:∀{l:List Int},msv m 0 l.reverse=val m l
 | []=>rfl
 | d::r=>by
  unfold msv
  rw[List.reverse_cons,List.foldl_append]
  have:=zhy (m:=m) (l:=r)
  unfold msv at this
  rw[this]
  simp only[List.foldl_cons,List.foldl_nil,zdn,zdo]
  exact Int.add_comm _ _
noncomputable def zfm (m:Nat) (b:Int):Int→List Int→List Int×Int
 | r,[]=>([],r)
 | r,d::l=>((r*2 ^ m+d) / b::(zfm m b ((r*2 ^ m+d) % b) l).1,(zfm m b ((r*2 ^ m+d) % b) l).2)
theorem zxn {m:Nat}{b r d:Int}{l:List Int}:zfm m b r (d::l)=((r*2 ^ m+d) / b::(zfm m b ((r*2 ^ m+d) % b) l).1,(zfm m b ((r*2 ^ m+d) % b) l).2):=rfl
theorem zlN {m:Nat}{b:Int} (hb:0 < b):∀{l:List Int}{q0 r:Int},InD m l→0≤r→r < b →
  InD m (zfm m b r l).1∧(zfm m b r l).1.length=l.length∧0≤(zfm m b r l).2∧(zfm m b r l).2 < b∧msv m (q0*b+r) l=msv m q0 (zfm m b r l).1*b+(zfm m b r l).2
 | [],q0,r,_,h1,h2=>⟨λd h=>(nomatch h),rfl,h1,h2,rfl⟩
 | d::l,q0,r,hl,h1,h2=>by
  refine xA (hl d (by simp)) λd1 d2=>?_
  have e1:0≤r*2 ^ m+d:=by have:=Int.mul_nonneg h1 (Int.le_of_lt (p2 m));exact Int.add_nonneg this d1
  have e2:r*2 ^ m+d < b*2 ^ m:=by
   have:(r+1)*2 ^ m≤b*2 ^ m:=Int.mul_le_mul_of_nonneg_right (h2) (Int.le_of_lt (p2 m))
   rw[Int.add_mul,Int.one_mul]at this
   exact Int.le_trans (Int.add_lt_add_left d2 _) this
  refine zka (zlN (m:=m) hb (l:=l) (q0:=q0*2 ^ m+(r*2 ^ m+d) / b) (r:=(r*2 ^ m+d) % b) (λx hx=>hl x (by simp[hx])) (Int.emod_nonneg _ (Int.ne_of_gt hb)) (Int.emod_lt_of_pos _ hb)) λa1 a2 a3 a4 a5=>?_
  refine⟨λx hx=>?_,by simp only[zxn,List.length_cons,a2],a3,a4,?_⟩
  ·simp only[zxn,List.mem_cons]at hx
   rcases hx with rfl | hx
   ·exact⟨Int.ediv_nonneg e1 (Int.le_of_lt hb),Int.ediv_lt_of_lt_mul hb (by rw[Int.mul_comm (2 ^ m) b];exact e2)⟩
   ·exact a1 x hx
  ·simp only[zxn]
   have t:(q0*2 ^ m+(r*2 ^ m+d) / b)*b+(r*2 ^ m+d) % b=(q0*b+r)*2 ^ m+d:=by
    have:=Int.mul_ediv_add_emod (r*2 ^ m+d) b
    rw[Int.mul_comm]at this
    rw[Int.add_mul,Int.add_mul,Int.mul_right_comm q0 (2 ^ m) b]
    lia
   rw[t]at a5
   exact a5
theorem znI {m:Nat}{b a:Int}{l:List Int} (hb:0 < b) (hl:InD m l) (ha:val m l=a):val m (zfm m b 0 l.reverse).1.reverse=a / b∧(zfm m b 0 l.reverse).2=a % b∧InD m (zfm m b 0 l.reverse).1∧(zfm m b 0 l.reverse).1.length=l.length:=by
 refine zka (zlN (m:=m) hb (l:=l.reverse) (q0:=0) (r:=0) (λx hx=>hl x (List.mem_reverse.mp hx)) (Int.le_refl _) hb) λa1 a2 a3 a4 a5=>?_
 rw[Int.zero_mul,Int.zero_add,zhy,ha]at a5
 refine xA (zdh a5 a3 a4) λd1 d2=>?_
 refine⟨?_,d2.symm,a1,by simpa using a2⟩
 rw[← zhy,List.reverse_reverse,d1]
end Mine.Internal
end

noncomputable section
open PySem PySem.Builtin.Int
namespace Mine.Internal
theorem zqb {a b:Nat} (h:a≤b):(2:Int) ^ a≤2 ^ b:=by
 refine xE (Nat.le.dest h) λc q1_=>?_;subst q1_
 rw[Int.pow_add]
 have h1:=p2 a
 have h2:1≤(2:Int) ^ c:=p2 c
 have:=Int.mul_le_mul_of_nonneg_left h2 (Int.le_of_lt h1)
 exact Int.le_trans (zle (Nat.le_add_left _ _)) this
theorem zlf {L R:Nat}:zD (L:Int) (R:Int)=(((L+R) / 2:Nat):Int):=by
 unfold zD
 rw[show(2:Int) ^ 1=2 from rfl,zJ (by decide)]
 exact Int.le_antisymm (Int.le_refl _) (Int.le_refl _)
theorem zcU {n m:Nat} (h:n < 2 ^ m):intBits ((n:Nat):Int)≤m:=by
 rw[zP];simpa using h
theorem hf1 {L R:Nat} (h1:L < R) (hl:¬(L:Int)+1=R):L+2≤R:=Nat.lt_of_le_of_ne h1 λh=>hl (congrArg Int.ofNat h)
theorem hf3 {L R M:Nat} (h:L+2≤R) (hM:(L+R) / 2=M):L < M:=by lia
theorem hf4 {L R M:Nat} (h:L+2≤R) (hM:(L+R) / 2=M):M < R:=by lia
theorem hf5 {L R M k:Nat} (h:L+2≤R) (hM:(L+R) / 2=M) (h4:R - L≤2 ^ (k+1)):M - L≤2 ^ k:=by
 rw[Nat.pow_succ]at h4;lia
theorem hf6 {L R M k:Nat} (h:L+2≤R) (hM:(L+R) / 2=M) (h4:R - L≤2 ^ (k+1)):R - M≤2 ^ k:=by
 rw[Nat.pow_succ]at h4;lia
theorem hf7 {L R M:Nat} (b1:L < M) (b2:M < R):R - L=(M - L)+(R - M):=((Nat.add_comm _ _).trans (Nat.sub_add_sub_cancel (Nat.le_of_lt b2) (Nat.le_of_lt b1))).symm
theorem hf8 {L M:Nat} (h:L < M):(M:Int) - (L:Int)=((M - L:Nat):Int):=(Int.ofNat_sub (Nat.le_of_lt h)).symm
theorem hf9 {L M:Nat} (h:L < M):L+(M - L)=M:=Nat.add_sub_of_le (Nat.le_of_lt h)
theorem zwT {L R:Nat} (h1:L < R) (h:R - L≤2 ^ 0) {P:Prop} (hl:¬(L:Int)+1=R):P:=absurd (Nat.le_trans (Nat.sub_le_sub_right (hf1 h1 hl) L) h) (by rw[Nat.add_sub_cancel_left];decide)
theorem cm1 {i m c:Nat} (hm0:0 < m) (hi:i≤c) (hc:0 < c):(i+m - 1) / m≤c:=by
 obtain⟨n,rfl⟩:∃n,m=n+1:=⟨m - 1,(Nat.sub_add_cancel hm0).symm⟩
 refine Nat.div_le_of_le_mul ?_
 rw[Nat.succ_mul,Nat.add_comm (n*c)]
 exact Nat.add_le_add hi (Nat.le_mul_of_pos_right n hc)
theorem cm2 {i m:Nat} (hm0:0 < m):i≤m*((i+m - 1) / m):=by
 have:=Nat.div_add_mod (i+m - 1) m
 have:=Nat.mod_lt (i+m - 1) hm0
 lia
theorem z20 {a b:Nat} (h:a+b≤200000):(a:Int)+(b:Int)≤2 ^ 20:=zle (Nat.le_trans h (by decide))
theorem zfK {m:Nat} (hm:m≤100000):∀(k L R:Nat) (x:Int) (xs:List D),L < R→R≤xs.length→m*(R - L)≤200000→R - L≤2 ^ k→xs.length≤2 ^ 20→0≤x→x < 2 ^ (m*(R - L)) →
  zdA (k+1) m x L R xs=some (xs.take L++(zfn m (R - L) x).map .int++xs.drop R)
 | k,L,R,x,xs,h1,h2,h3,h4,h5,h6,h7=>by
  by_cases hl:(L:Int)+1=R
  ·have e:R=L+1:=(Nat.le_antisymm (nle (Int.le_of_eq (Eq.symm hl))) (nle (Int.le_of_eq hl)))
   subst e
   have hc:L+1 - L=1:=(Nat.add_sub_cancel_left _ _)
   rw[hc,Nat.mul_one]at h7
   unfold zdA
   rw[if_pos hl,if_pos h5]
   have hL:L < xs.length:=h2
   simp only[zeH]
   rw[if_pos (Int.natCast_nonneg _),Int.toNat_natCast,if_pos hL,hc]
   simp only[zoP,zoQ,List.map_cons,List.map_nil,Int.emod_eq_of_lt h6 h7]
   rw[List.set_eq_take_append_cons_drop,if_pos hL]
   simp
  ·match k,h4 with
   | 0,h4=>exact zwT h1 h4 hl
   | k+1,h4 =>
    have hle:L+2≤R:=hf1 h1 hl
    generalize hM:(L+R) / 2=M
    have b1:L < M:=hf3 hle hM
    have ms:=hf8 b1
    have b2:M < R:=hf4 hle hM
    have b3:M - L≤2 ^ k:=hf5 hle hM h4
    have b4:R - M≤2 ^ k:=hf6 hle hM h4
    have hM2:=Nat.le_trans (Nat.le_of_lt b2) h2
    have sh:((M - L:Nat):Int)*(m:Int)=((m*(M - L):Nat):Int):=by rw[Int.natCast_mul,Int.mul_comm]
    have sp:m*(R - L)=m*(M - L)+m*(R - M):=by rw[← Nat.mul_add,hf7 b1 b2]
    have hp:=p2 (m*(M - L))
    have u0:0≤x / 2 ^ (m*(M - L)):=Int.ediv_nonneg h6 (Int.le_of_lt hp)
    have u1:x / 2 ^ (m*(M - L)) < 2 ^ (m*(R - M)):=Int.ediv_lt_of_lt_mul hp (by rw[← Int.pow_add,Nat.add_comm,← sp];exact h7)
    have l0:=Int.emod_nonneg x (Int.ne_of_gt hp)
    have l1:=Int.emod_lt_of_pos x hp
    have gu:intBits (x / 2 ^ (m*(M - L)))≤m*(R - M):=zah u0 u1
    have g1:intBits ((M - L:Nat):Int)≤20:=zcU (Nat.lt_of_lt_of_le (Nat.sub_lt_of_lt (Nat.lt_of_lt_of_le b2 h2)) h5)
    have g2:intBits ((m:Nat):Int)≤20:=zcU (Nat.lt_of_le_of_lt hm (by decide))
    have fd:x.fdiv (2 ^ (m*(M - L)))=x / 2 ^ (m*(M - L)):=zJ (Int.le_of_lt hp)
    unfold zdA
    rw[if_neg hl]
    simp only[zlf,hM,ms,sh,Int.toNat_natCast,fd,znQ h6]
    rw[if_pos ⟨Nat.le_trans (Nat.add_le_add g1 g2) (by decide),(Int.natCast_nonneg _),z20 (Nat.le_trans (Nat.add_le_add gu (Nat.le_refl _)) (Nat.le_trans (Nat.le_of_eq ((Nat.add_comm _ _).trans sp.symm)) h3))⟩]
    have A:=zfK hm k L M (x % 2 ^ (m*(M - L))) xs b1 hM2 (Nat.le_trans (Nat.le_trans (Nat.le_add_right _ _) (Nat.le_of_eq sp.symm)) h3) b3 h5 l0 l1
    rw[A,Option.bind_some]
    have ll:(xs.take L++(zfn m (M - L) (x % 2 ^ (m*(M - L)))).map D.int).length=M:=by rw[List.length_append,List.length_take,List.length_map,zfS,Nat.min_eq_left (Nat.le_trans (Nat.le_of_lt b1) hM2),hf9 b1]
    have len:(xs.take L++(zfn m (M - L) (x % 2 ^ (m*(M - L)))).map D.int++xs.drop M).length=xs.length:=by
     rw[List.length_append,ll,List.length_drop,Nat.add_sub_of_le hM2]
    have B:=zfK hm k M R (x / 2 ^ (m*(M - L))) (xs.take L++(zfn m (M - L) (x % 2 ^ (m*(M - L)))).map D.int++xs.drop M) b2 (by rw[len];exact h2) (Nat.le_trans (Nat.le_trans (Nat.le_add_left _ _) (Nat.le_of_eq sp.symm)) h3) b4 (by rw[len];exact h5) u0 u1
    rw[B]
    congr 1
    rw[List.take_append_of_le_length (Nat.le_of_eq (Eq.symm ll)),List.take_of_length_le (Nat.le_of_eq ll)]
    rw[List.drop_append,ll,List.drop_of_length_le (Nat.le_trans (Nat.le_of_eq ll) (Nat.le_of_lt b2)),List.nil_append,List.drop_drop]
    rw[hf7 b1 b2,zes h6,List.map_append]
    rw[hf9 b2]
    simp only[List.append_assoc]
theorem ztU {K m:Nat}{a:Int} (h0:0≤a) (hm0:0 < m) (hm:m≤50000) (ha:intBits a≤50000) (hK:17≤K):i2d K a m=some ((zfn m ((intBits a+m - 1) / m) a).map .int):=by
 have e20':(2:Int) ^ 20=1048576:=rfl
 have ec:zbz a m=(((intBits a+m - 1) / m:Nat):Int):=by
  unfold zbz
  rw[zJ (Int.natCast_nonneg _),Int.natCast_ediv]
  congr 1
  exact(Int.ofNat_sub (n:=intBits a+m) (m:=1) (Nat.le_trans hm0 (Nat.le_add_left _ _))).symm
 have hd:zby (intBits a+(m:Int) - 1) m=true:=zcp (Int.ne_of_gt (zle hm0)) (Nat.le_trans (zcU (m:=20) (Nat.lt_of_le_of_lt hm (by decide))) (by decide))
 have hc1:(intBits a+m - 1) / m≤50000:=cm1 hm0 ha (by decide)
 have hlt:a < 2 ^ (m*((intBits a+m - 1) / m)):=by
  refine Int.lt_of_lt_of_le (zhD h0) ?_
  exact zqb (cm2 hm0)
 have hmc:m*((intBits a+m - 1) / m)≤200000:=Nat.le_trans (Nat.mul_div_le _ _) (Nat.le_trans (Nat.sub_le _ _) (Nat.le_trans (Nat.add_le_add ha hm) (by decide)))
 unfold i2d
 rw[ec]
 generalize hC:(intBits a+m - 1) / m=C at *
 rw[if_pos ⟨hd,(Int.natCast_nonneg _),(Int.le_trans (zle hc1) (by decide))⟩]
 by_cases ha0:a=0
 ·subst ha0
  have:C=0:=by
   rw[← hC,show intBits (0:Int)=0 from rfl]
   exact Nat.div_eq_of_lt (by rw[Nat.zero_add];exact Nat.sub_lt hm0 Nat.one_pos)
  subst this
  rfl
 ·rw[if_neg ha0]
  have hC0:0 < C:=by
   apply Nat.pos_of_ne_zero
   intro h
   subst h
   exact ha0 (Int.le_antisymm (Int.le_of_lt_add_one (show a < 0+1 from hlt)) h0)
  obtain⟨K,rfl⟩:∃K',K=K'+1:=⟨K - 1,(Nat.sub_add_cancel (Nat.le_trans (by decide) hK)).symm⟩
  have p16:2 ^ 16≤2 ^ K:=Nat.pow_le_pow_right (by decide) (Nat.le_of_succ_le_succ hK)
  have e16:(2:Nat) ^ 16=65536:=rfl
  have e20:(2:Nat) ^ 20=1048576:=rfl
  have A:=zfK (m:=m) (Nat.le_trans hm (by decide)) K 0 C a (List.replicate C (.int 0)) hC0 (by simp) (by simpa using hmc) (Nat.le_trans hc1 (Nat.le_trans (by decide) p16)) (by simp;exact Nat.le_trans hc1 (by decide)) h0 (by simpa using hlt)
  simpa using A
theorem zqr {l:List Int}{L:Nat} (h:L < l.length) (hl:l.length≤2 ^ 20):zho (.list (l.map .int)) (.int L)=some (.int l[L]):=by
 simp only[zgl]
 rw[if_pos (by simpa using hl)]
 unfold at?
 rw[if_pos (Int.natCast_nonneg _)]
 simp[h]
theorem zfI {m:Nat}{l:List Int} (hm:m≤100000) (hl:InD m l) (hlen:l.length≤2 ^ 17) (hml:m*l.length≤200000):∀(k L R:Nat),L < R→R≤l.length→R - L≤2 ^ k →
  zfJ (k+1) m (l.map .int) L R=some (val m ((l.take R).drop L))
 | k,L,R,h1,h2,h4=>by
  by_cases hlt:(L:Int)+1=R
  ·have e:R=L+1:=(Nat.le_antisymm (nle (Int.le_of_eq (Eq.symm hlt))) (nle (Int.le_of_eq hlt)))
   subst e
   unfold zfJ
   rw[if_pos hlt,zqr (show L < l.length from h2) (Nat.le_trans hlen (by decide))]
   have:(l.take (L+1)).drop L=[l[L]]:=by
    rw[List.take_add_one,List.drop_append_of_le_length (by rw[List.length_take,Nat.min_eq_left (Nat.le_of_lt h2)];exact Nat.le_refl _)]
    simp[show L < l.length from h2]
   rw[this]
   simp[zdn,zdo]
  ·match k,h4 with
   | 0,h4=>exact zwT h1 h4 hlt
   | k+1,h4 =>
    have hle:L+2≤R:=hf1 h1 hlt
    generalize hM:(L+R) / 2=M
    have b1:L < M:=hf3 hle hM
    have ms:=hf8 b1
    have b2:M < R:=hf4 hle hM
    have b3:M - L≤2 ^ k:=hf5 hle hM h4
    have b4:R - M≤2 ^ k:=hf6 hle hM h4
    have hM2:=Nat.le_trans (Nat.le_of_lt b2) h2
    have sh:((M - L:Nat):Int)*(m:Int)=((m*(M - L):Nat):Int):=by rw[Int.natCast_mul,Int.mul_comm]
    have sp:m*(M - L)+m*(R - M)≤m*l.length:=by rw[← Nat.mul_add];exact Nat.mul_le_mul_left _ (hf7 b1 b2▸Nat.le_trans (Nat.sub_le _ _) h2)
    have g1:intBits ((M - L:Nat):Int)≤20:=zcU (Nat.lt_of_lt_of_le (Nat.sub_lt_of_lt (Nat.lt_of_lt_of_le b2 h2)) (Nat.le_trans hlen (by decide)))
    have g2:intBits ((m:Nat):Int)≤20:=zcU (Nat.lt_of_le_of_lt hm (by decide))
    have A:=zfI hm hl hlen hml k M R b2 h2 b4
    have B:=zfI hm hl hlen hml k L M b1 hM2 b3
    have inA:InD m ((l.take R).drop M):=λd hd=>hl d (List.mem_of_mem_take (List.mem_of_mem_drop hd))
    refine xA (zcx inA) λv0 v1=>?_
    have lenA:((l.take R).drop M).length=R - M:=by rw[List.length_drop,List.length_take,Nat.min_eq_left h2]
    rw[lenA]at v1
    have gv:=zah v0 v1
    unfold zfJ
    rw[if_neg hlt]
    simp only[zlf,hM,ms,sh,Int.toNat_natCast]
    rw[if_pos (Nat.le_trans (Nat.add_le_add g1 g2) (by decide)),A,B]
    simp only[Option.bind_some]
    rw[if_pos ⟨(Int.natCast_nonneg _),z20 (Nat.le_trans (Nat.add_le_add gv (Nat.le_refl _)) (Nat.le_trans (Nat.le_of_eq (Nat.add_comm _ _)) (Nat.le_trans sp hml)))⟩]
    congr 1
    have split:(l.take R).drop L=(l.take M).drop L++(l.take R).drop M:=by
     have:l.take M=(l.take R).take M:=by rw[List.take_take,Nat.min_eq_left (Nat.le_of_lt b2)]
     rw[this]
     have h3:(l.take R).drop L=(((l.take R).take M)++(l.take R).drop M).drop L:=by rw[List.take_append_drop]
     rw[h3,List.drop_append_of_le_length (by rw[List.length_take,List.length_take,Nat.min_eq_left h2,Nat.min_eq_left (Nat.le_of_lt b2)];exact Nat.le_of_lt b1)]
    have lenB:((l.take M).drop L).length=M - L:=by rw[List.length_drop,List.length_take,Nat.min_eq_left hM2]
    rw[split,zeT,lenB]
    exact Int.add_comm _ _
theorem zuv {K m:Nat}{l:List Int} (hl:InD m l) (hm:m≤50000) (hlen:l.length≤60000) (hml:m*l.length≤200000) (hK:17≤K):d2i K (l.map .int) m=some (val m l):=by
 have e20:(2:Nat) ^ 20=1048576:=rfl
 have e17:(2:Nat) ^ 17=131072:=rfl
 unfold d2i
 rw[if_pos (by simp;exact Nat.le_trans hlen (by decide))]
 cases hc:l with
 | nil=>rfl
 | cons d r =>
  rw[← hc]
  have:(l.map D.int).isEmpty=false:=by rw[hc];rfl
  rw[if_neg (by rw[this];decide)]
  obtain⟨K,rfl⟩:∃K',K=K'+1:=⟨K - 1,(Nat.sub_add_cancel (Nat.le_trans (by decide) hK)).symm⟩
  have p16:2 ^ 16≤2 ^ K:=Nat.pow_le_pow_right (by decide) (Nat.le_of_succ_le_succ hK)
  have e16:(2:Nat) ^ 16=65536:=rfl
  have A:=zfI (m:=m) (l:=l) (Nat.le_trans hm (by decide)) hl (Nat.le_trans hlen (by decide)) hml K 0 l.length (by rw[hc];simp) (Nat.le_refl _) (Nat.le_trans hlen (Nat.le_trans (by decide) p16))
  rw[List.take_length,List.drop_zero]at A
  simpa using A
end Mine.Internal
end

noncomputable section
open PySem PySem.Builtin.Int
namespace Mine.Internal
theorem zdK:∀l:List Int,zbD (l.map .int)=some l
 | []=>rfl
 | a::r=>by simp[zyj,zdK r]
theorem zZ:∀l:List Int,zg (l.map .int)=true
 | []=>rfl
 | a::r=>by simp[zde,zqG,zZ r]
section
variable {tbl:List PD}{S:Int→Bool}{T:Int→Option (List Nat)}{N:Nat}
theorem zue (X:TblOk tbl) {k m:Nat}{a:Int} (h0:0≤a) (hm0:0 < m) (hm:m≤50000) (ha:intBits a≤50000) (hK:17≤k) :
  FL tbl S T N (k+1) 25 [.int a,.int m]=some (.list ((zfn m ((intBits a+m - 1) / m) a).map .int)):=by
 rw[zdg X (by decide)]
 show(i2d k a m).map D.list=_
 rw[ztU h0 hm0 hm ha hK]
 rfl
theorem zxg (X:TblOk tbl) {k m:Nat}{l:List Int} (hl:InD m l) (hm:m≤50000) (hlen:l.length≤60000) (hml:m*l.length≤200000) (hK:17≤k) :
  FL tbl S T N (k+1) 26 [.list (l.map .int),.int m]=some (.int (val m l)):=by
 rw[zdg X (by decide)]
 show(if (zbD (l.map .int)).isSome then(d2i k (l.map .int) m).map D.int else none)=_
 rw[zdK,if_pos (show(some l).isSome=true from rfl),zuv hl hm hlen hml hK]
 rfl
noncomputable def zhQ:List U:=[.unp [7,4] (.call 23 [.bin .Add (.bin .LShift (.var 4) (.var 2)) (.var 6),.var 1,.var 2]),.app 5 (.var 7)]
theorem zih {F:Fns}{a b:Int}{m:Nat}{ads:List D} (hm:m≤50000) (h23:zvA F m) (g2:2 ^ m≤2*b) (g3:b < 2 ^ m):∀(l:List Int) (acc:List Int) (r:Int) (o6 o7:Option B),InD m l→0≤r→r < b→acc.length+l.length≤2 ^ 20 →
  ∃o6' o7',zjy 0 [6] (λρ=>exs F N ρ zhQ) (l.map .int) [some (.fz (.int a)),some (.fz (.int b)),some (.fz (.int m)),some (.fz (.list ads)),some (.fz (.int r)),some (.mu (acc.map .int)),o6,o7,none] =
   some (.next,[some (.fz (.int a)),some (.fz (.int b)),some (.fz (.int m)),some (.fz (.list ads)),some (.fz (.int (zfm m b r l).2)),some (.mu ((acc++(zfm m b r l).1).map .int)),o6',o7',none])
 | [],acc,r,o6,o7,_,_,_,_=>⟨o6,o7,by rw[show acc++(zfm m b r []).1=acc from List.append_nil acc];rfl⟩
 | d::l,acc,r,o6,o7,hl,h1,h2,hlen=>by
  have hb:0 < b:=by lia
  refine xA (hl d (by simp)) λd1 d2=>?_
  have e1:0≤r*2 ^ m+d:=by have:=Int.mul_nonneg h1 (Int.le_of_lt (p2 m));exact Int.add_nonneg this d1
  have e2:r*2 ^ m+d < b*2 ^ m:=by
   have:(r+1)*2 ^ m≤b*2 ^ m:=Int.mul_le_mul_of_nonneg_right (h2) (Int.le_of_lt (p2 m))
   rw[Int.add_mul,Int.one_mul]at this
   exact Int.le_trans (Int.add_lt_add_left d2 _) this
  have C:=h23 _ _ e1 g2 g3 e2
  have gr:intBits r≤m:=zah h1 (Int.le_trans h2 (Int.le_of_lt g3))
  have e20:(2:Nat) ^ 20=1048576:=rfl
  have gg:intBits r+m≤1048576:=by lia
  rw[List.length_cons]at hlen
  refine xEE (zih (a:=a) (ads:=ads) hm h23 g2 g3 l (acc++[(r*2 ^ m+d) / b]) ((r*2 ^ m+d) % b) (some (.fz (.int d))) (some (.fz (.int ((r*2 ^ m+d) / b)))) (λx hx=>hl x (by simp[hx])) (Int.emod_nonneg _ (Int.ne_of_gt hb)) (Int.emod_lt_of_pos _ hb) (by simp;lia)) λo6' o7' A=>?_
  refine⟨o6',o7',?_⟩
  have hbody:exs F N [some (.fz (.int a)),some (.fz (.int b)),some (.fz (.int m)),some (.fz (.list ads)),some (.fz (.int r)),some (.mu (acc.map .int)),some (.fz (.int d)),o7,none] zhQ =
    some (.next,[some (.fz (.int a)),some (.fz (.int b)),some (.fz (.int m)),some (.fz (.list ads)),some (.fz (.int ((r*2 ^ m+d) % b))),some (.mu ((acc++[(r*2 ^ m+d) / b]).map .int)),some (.fz (.int d)),some (.fz (.int ((r*2 ^ m+d) / b))),none]):=by
   have s1:ex F N [some (.fz (.int a)),some (.fz (.int b)),some (.fz (.int m)),some (.fz (.list ads)),some (.fz (.int r)),some (.mu (acc.map .int)),some (.fz (.int d)),o7,none] (.unp [7,4] (.call 23 [.bin .Add (.bin .LShift (.var 4) (.var 2)) (.var 6),.var 1,.var 2])) =
     some (.next,[some (.fz (.int a)),some (.fz (.int b)),some (.fz (.int m)),some (.fz (.list ads)),some (.fz (.int ((r*2 ^ m+d) % b))),some (.mu (acc.map .int)),some (.fz (.int d)),some (.fz (.int ((r*2 ^ m+d) / b))),none]):=by
    exact zge (zx (zb (zk (zk rfl rfl (zjI gg)) rfl rfl) (zb rfl (zb rfl zm))) C) rfl
   have s2:ex F N [some (.fz (.int a)),some (.fz (.int b)),some (.fz (.int m)),some (.fz (.list ads)),some (.fz (.int ((r*2 ^ m+d) % b))),some (.mu (acc.map .int)),some (.fz (.int d)),some (.fz (.int ((r*2 ^ m+d) / b))),none] (.app 5 (.var 7)) =
     some (.next,[some (.fz (.int a)),some (.fz (.int b)),some (.fz (.int m)),some (.fz (.list ads)),some (.fz (.int ((r*2 ^ m+d) % b))),some (.mu ((acc++[(r*2 ^ m+d) / b]).map .int)),some (.fz (.int d)),some (.fz (.int ((r*2 ^ m+d) / b))),none]):=by
    have ha:(acc.map D.int).length≤2 ^ 20:=by rw[List.length_map];exact Nat.le_trans (Nat.le_add_right _ _) hlen
    rw[List.map_append]
    exact zrC (d:=.int ((r*2 ^ m+d) / b)) rfl rfl (decide_eq_true ha)
   exact(za s1).trans ((za s2).trans rfl)
  have hbind:zal [some (.fz (.int a)),some (.fz (.int b)),some (.fz (.int m)),some (.fz (.list ads)),some (.fz (.int r)),some (.mu (acc.map .int)),o6,o7,none] [6] [.int d] =
   some [some (.fz (.int a)),some (.fz (.int b)),some (.fz (.int m)),some (.fz (.list ads)),some (.fz (.int r)),some (.mu (acc.map .int)),some (.fz (.int d)),o7,none]:=rfl
  rw[List.map_cons]
  simp only[zua,zuF,Option.bind_some,hbind,hbody,zqy]
  show zjy 0 [6] _ _ _=_
  rw[A]
  rw[List.append_assoc];rfl
theorem zxf (X:TblOk tbl) (hN:4≤N) {k:Nat}{a b:Int} (hk:20≤k) (h0:0≤a) (hb:0 < b) (ha:intBits a≤40000) (hbb:intBits b≤40000) :
  FL tbl S T N (k+1) 27 [.int a,.int b]=some (.tup [.int (a / b),.int (a % b)]):=by
 obtain⟨k,rfl⟩:∃k',k=k'+1:=⟨k - 1,(Nat.sub_add_cancel (Nat.le_trans (by decide) hk)).symm⟩
 rw[zep X.t27 (by decide) rfl]
 refine xAA (znV hb) λhm0 hm1 hm2=>?_
 have h23:zvA (FL tbl S T N (k+1)) (intBits b):=zoO X hN 4 (k+1) (intBits b) (Nat.le_trans hbb (by decide)) (Nat.le_trans hbb (by decide)) (Nat.le_trans (by decide) hk)
 have h25:=zue (S:=S) (T:=T) (N:=N) X (k:=k) h0 hm0 (Nat.le_trans hbb (by decide)) (show intBits a≤50000 from Nat.le_trans ha (by decide)) (Nat.le_trans (by decide) (Nat.le_of_succ_le_succ hk))
 have hF:=λxs:List Int=>zZ xs
 generalize hM:intBits b=m at *
 generalize hF0:FL tbl S T N (k+1)=F at *
 have g2:2 ^ m≤2*b:=by
  have:(2:Int) ^ m=2 ^ (m - 1)*2:=by rw[← Int.pow_succ];exact congrArg (λn=>(2:Int) ^ n) (Nat.sub_add_cancel hm0).symm
  lia
 have hc1:m*((intBits a+m - 1) / m)≤intBits a+m - 1:=Nat.mul_div_le _ _
 have hc2:(intBits a+m - 1) / m≤60000:=cm1 hm0 (Nat.le_trans ha (by decide)) (by decide)
 have hlt:a < 2 ^ (m*((intBits a+m - 1) / m)):=Int.lt_of_lt_of_le (zhD h0) (zqb (cm2 hm0))
 generalize hC:(intBits a+m - 1) / m=C at *
 have hin:=zlO (m:=m) (c:=C) (a:=a)
 have hv:=zhZ h0 hlt
 have hl:=zfS (m:=m) (c:=C) (a:=a)
 generalize hD:zfn m C a=ds at *
 refine zeR (znI hb hin hv) λw1 w2 w3 w4=>?_
 have e20:(2:Nat) ^ 20=1048576:=rfl
 refine xEE (zih (N:=N) (a:=a) (ads:=ds.map .int) (show m≤50000 from Nat.le_trans hbb (by decide)) h23 g2 hm2 ds.reverse [] 0 none none (λx hx=>hin x (List.mem_reverse.mp hx)) (Int.le_refl _) hb (by simp;exact Nat.le_trans (Nat.le_of_eq hl) (Nat.le_trans hc2 (by decide)))) λo6 o7 L=>?_
 rw[List.nil_append,w2]at L
 have h26:F 26 [.list ((zfm m b 0 ds.reverse).1.reverse.map .int),.int m]=some (.int (a / b)):=by
  rw[← hF0,zxg X (λx hx=>w3 x (List.mem_reverse.mp hx)) (Nat.le_trans hbb (by decide)) (by simp;exact Nat.le_trans (Nat.le_trans (Nat.le_of_eq w4) (Nat.le_of_eq hl)) hc2) (by simp[w4];rw[hl];exact Nat.le_trans hc1 (Nat.le_trans (Nat.sub_le _ _) (Nat.le_trans (Nat.add_le_add ha hbb) (by decide)))) (Nat.le_trans (by decide) (Nat.le_of_succ_le_succ hk)),w1]
 generalize zfm m b 0 ds.reverse=dv at *
 apply zbc
 have s0:ex F N [some (.fz (.int a)),some (.fz (.int b)),none,none,none,none,none,none,none] (.set 2 (.meth .bits (.var 1) [])) =
   some (.next,[some (.fz (.int a)),some (.fz (.int b)),some (.fz (.int m)),none,none,none,none,none,none]):=by rw[← hM];exact zcf (zdU rfl zm rfl) rfl
 have s1:ex F N [some (.fz (.int a)),some (.fz (.int b)),some (.fz (.int m)),none,none,none,none,none,none] (.set 3 (.call 25 [.var 0,.var 2])) =
   some (.next,[some (.fz (.int a)),some (.fz (.int b)),some (.fz (.int m)),some (.fz (.list (ds.map .int))),none,none,none,none,none]):=zcf (zx (zb rfl (zb rfl zm)) h25) rfl
 have s2:ex F N [some (.fz (.int a)),some (.fz (.int b)),some (.fz (.int m)),some (.fz (.list (ds.map .int))),none,none,none,none,none] (.set 4 (.lit (.int 0))) =
   some (.next,[some (.fz (.int a)),some (.fz (.int b)),some (.fz (.int m)),some (.fz (.list (ds.map .int))),some (.fz (.int 0)),none,none,none,none]):=zcf rfl rfl
 have s3:ex F N [some (.fz (.int a)),some (.fz (.int b)),some (.fz (.int m)),some (.fz (.list (ds.map .int))),some (.fz (.int 0)),none,none,none,none] (.new 5 (.list [])) =
   some (.next,[some (.fz (.int a)),some (.fz (.int b)),some (.fz (.int m)),some (.fz (.list (ds.map .int))),some (.fz (.int 0)),some (.mu (([]:List Int).map .int)),none,none,none]):=rfl
 have s4:ex F N [some (.fz (.int a)),some (.fz (.int b)),some (.fz (.int m)),some (.fz (.list (ds.map .int))),some (.fz (.int 0)),some (.mu (([]:List Int).map .int)),none,none,none] (.for_ 0 [6] (.call 9 [.var 3]) zhQ) =
   some (.next,[some (.fz (.int a)),some (.fz (.int b)),some (.fz (.int m)),some (.fz (.list (ds.map .int))),some (.fz (.int (a % b))),some (.mu (dv.1.map .int)),o6,o7,none]):=by
  have q:sr F [some (.fz (.int a)),some (.fz (.int b)),some (.fz (.int m)),some (.fz (.list (ds.map .int))),some (.fz (.int 0)),some (.mu (([]:List Int).map .int)),none,none,none] 0 (.call 9 [.var 3])=some (ds.reverse.map .int):=by
   rw[List.map_reverse,zkh,zL]
   exact if_pos ⟨rfl,hF ds⟩
  rw[zke,if_pos (show ziX _ _=true from rfl),q,Option.bind_some]
  exact L
 have s5:ex F N [some (.fz (.int a)),some (.fz (.int b)),some (.fz (.int m)),some (.fz (.list (ds.map .int))),some (.fz (.int (a % b))),some (.mu (dv.1.map .int)),o6,o7,none] (.rev 5) =
   some (.next,[some (.fz (.int a)),some (.fz (.int b)),some (.fz (.int m)),some (.fz (.list (ds.map .int))),some (.fz (.int (a % b))),some (.mu (dv.1.reverse.map .int)),o6,o7,none]):=by
  have:(dv.1.map D.int).length≤2 ^ 20:=by rw[List.length_map,w4];exact Nat.le_trans (Nat.le_of_eq hl) (Nat.le_trans hc2 (by decide))
  rw[List.map_reverse]
  exact if_pos this
 have s6:ex F N [some (.fz (.int a)),some (.fz (.int b)),some (.fz (.int m)),some (.fz (.list (ds.map .int))),some (.fz (.int (a % b))),some (.mu (dv.1.reverse.map .int)),o6,o7,none] (.set 8 (.call 26 [.var 5,.var 2])) =
   some (.next,[some (.fz (.int a)),some (.fz (.int b)),some (.fz (.int m)),some (.fz (.list (ds.map .int))),some (.fz (.int (a % b))),some (.mu (dv.1.reverse.map .int)),o6,o7,some (.fz (.int (a / b)))]):=by
  exact zcf (zx (zb rfl (zb rfl zm)) h26) rfl
 refine(za s0).trans ((za s1).trans ((za s2).trans ((za s3).trans ((za s4).trans ((za s5).trans ((za s6).trans (zO (d:=.tup [.int (a / b),.int (a % b)]) ?_ ?_)))))))
 ·exact zgg (zb rfl (zb rfl zm))
 ·rfl
theorem zoC (X:TblOk tbl) (hN:4≤N) {k:Nat}{a b:Int} (hk:21≤k) (h0:0≤a) (hb0:0 < b) (ha:intBits a≤40000) (hb:intBits b≤40000) :
  FL tbl S T N (k+1) 28 [.int a,.int b]=some (.tup [.int (a.fdiv b),.int (a.fmod b)]):=by
 obtain⟨k,rfl⟩:∃k',k=k'+1:=⟨k - 1,(Nat.sub_add_cancel (Nat.le_trans (by decide) hk)).symm⟩
 rw[zep X.t28 (by decide) rfl]
 have h27:=zxf (S:=S) (T:=T) X hN (k:=k) (Nat.le_of_succ_le_succ hk) h0 hb0 ha hb
 rw[zJ (Int.le_of_lt hb0),zbW (Int.le_of_lt hb0)]
 have e1:(b == 0)=false:=by simp;exact Int.ne_of_gt hb0
 have e2:¬b < 0:=(Int.not_lt_of_ge (Int.le_of_lt hb0))
 have e3:¬a < 0:=(Int.not_lt_of_ge h0)
 generalize FL tbl S T N (k+1)=F at *
 apply zbc
 exact zaz (zco (zai (zax (p:=false) rfl rfl (congrArg some e1)) rfl) (zaz (zco (zai (zax (p:=false) rfl rfl (congrArg some (decide_eq_false e2))) rfl) (zaz (zco (zai (zax (p:=false) rfl rfl (congrArg some (decide_eq_false e3))) rfl) (zO (zx (zb rfl (zb rfl zm)) h27) rfl))))))
theorem zoD (X:TblOk tbl) (hN:4≤N) {k:Nat}{a b:Int} (hk:22≤k) (hb0:0 < b) (ha:intBits a≤39999) (hb:intBits b≤40000) :
  FL tbl S T N (k+1) 28 [.int a,.int b]=some (.tup [.int (a.fdiv b),.int (a.fmod b)]):=by
 by_cases h0:0≤a
 ·exact zoC X hN (Nat.le_of_lt hk) h0 hb0 (Nat.le_trans ha (by decide)) hb
 obtain⟨k,rfl⟩:∃k',k=k'+1:=⟨k - 1,(Nat.sub_add_cancel (Nat.le_trans (by decide) hk)).symm⟩
 rw[zep X.t28 (by decide) rfl]
 have ha':intBits (Builtin.bitNot a)≤40000:=by
  have h1:=zP.mp ha
  rw[zP]
  have:(2:Nat) ^ 40000=2*2 ^ 39999:=by rw[← Nat.pow_succ']
  unfold Builtin.bitNot
  lia
 have hn:Builtin.bitNot a = -a - 1:=rfl
 have h28:=zoC (S:=S) (T:=T) X hN (k:=k) (a:=Builtin.bitNot a) (Nat.le_of_succ_le_succ hk) (by rw[hn];lia) hb0 ha' hb
 rw[zJ (Int.le_of_lt hb0),zbW (Int.le_of_lt hb0)]at h28 ⊢
 have t1:=Int.mul_ediv_add_emod (Builtin.bitNot a) b
 have t2:=Int.emod_nonneg (Builtin.bitNot a) (Int.ne_of_gt hb0)
 have t3:=Int.emod_lt_of_pos (Builtin.bitNot a) hb0
 obtain⟨d1,d2⟩:=zdh (A:=a) (b:=b) (q:=Builtin.bitNot (Builtin.bitNot a / b)) (r:=b+Builtin.bitNot (Builtin.bitNot a % b)) (by
  have e:Builtin.bitNot (Builtin.bitNot a / b) = -(Builtin.bitNot a / b) - 1:=rfl
  have e':Builtin.bitNot (Builtin.bitNot a % b) = -(Builtin.bitNot a % b) - 1:=rfl
  rw[e,e',Int.sub_mul,Int.neg_mul,Int.one_mul]
  rw[Int.mul_comm]at t1
  rw[hn]at t1 ⊢
  lia) (by unfold Builtin.bitNot at *;lia) (by unfold Builtin.bitNot at *;lia)
 rw[d1,d2]
 have e1:(b == 0)=false:=by simp;exact Int.ne_of_gt hb0
 have e2:¬b < 0:=(Int.not_lt_of_ge (Int.le_of_lt hb0))
 have e3:a < 0:=(Int.lt_of_not_ge h0)
 generalize FL tbl S T N (k+1)=F at *
 apply zbc
 exact zaz (zco (zai (zax (p:=false) rfl rfl (congrArg some e1)) rfl) (zaz (zco (zai (zax (p:=false) rfl rfl (congrArg some (decide_eq_false e2))) rfl) (zaz (zbe (zai (zax (p:=true) rfl rfl (congrArg some (decide_eq_true e3))) rfl)
  ((za (zge (zx (zb (zol rfl rfl) (zb rfl zm)) h28) rfl)).trans (zO (zgg (zb (zol rfl rfl) (zb (zk rfl (zol rfl rfl) rfl) zm))) rfl)))))))
theorem zxe (X:TblOk tbl) (hN:4≤N) {k:Nat}{a b:Int} (hk:23≤k) (hb0:b≠0) (ha:intBits a≤39999) (hb:intBits b≤40000) :
  FL tbl S T N (k+1) 28 [.int a,.int b]=some (.tup [.int (a.fdiv b),.int (a.fmod b)]):=by
 by_cases h0:0 < b
 ·exact zoD X hN (Nat.le_of_lt hk) h0 ha hb
 obtain⟨k,rfl⟩:∃k',k=k'+1:=⟨k - 1,(Nat.sub_add_cancel (Nat.le_trans (by decide) hk)).symm⟩
 rw[zep X.t28 (by decide) rfl]
 have e2:b < 0:=Int.lt_iff_le_and_ne.mpr ⟨Int.not_lt.mp h0,hb0⟩
 have h28:=zoD (S:=S) (T:=T) X hN (k:=k) (a:=-a) (b:=-b) (Nat.le_of_succ_le_succ hk) (Int.neg_pos_of_neg e2) (by rw[zP]at ha ⊢;simpa using ha) (by rw[zP]at hb ⊢;simpa using hb)
 rw[Int.neg_fdiv_neg]at h28
 have em : -((-a).fmod (-b))=a.fmod b:=by rw[Int.neg_fmod_neg,Int.neg_neg]
 have e1:(b == 0)=false:=by simpa using hb0
 generalize FL tbl S T N (k+1)=F at *
 apply zbc
 rw[← em]
 exact zaz (zco (zai (zax (p:=false) rfl rfl (congrArg some e1)) rfl) (zaz (zbe (zai (zax (p:=true) rfl rfl (congrArg some (decide_eq_true e2))) rfl)
  ((za (zge (zx (zb (zol rfl rfl) (zb (zol rfl rfl) zm)) h28) rfl)).trans (zO (zgg (zb rfl (zb (zol rfl rfl) zm))) rfl)))))
end
end Mine.Internal
end

noncomputable section
open PySem PySem.Builtin.Int
namespace Mine.Internal
noncomputable def nms (l:List String):List Str:=l.map Str.ofString
noncomputable def pdl (id:Nat) (us:List U) (ns:List String) (na nk:Nat):PD:=⟨id,us,nms ns,na,nk⟩
noncomputable def tbC:List PD:=[pdl 21 zaa zY 1 5,pdl 22 zaS zaN 1 3,pdl 23 zbm zgK 3 8,pdl 24 zat zgJ 6 2,
 pdl 27 zbQ zdt 2 7,pdl 28 zbP zds 2 2]
noncomputable def tb2:List PD:=tbC++[pdl 60 zez zei 3 3,pdl 61 zeA zej 2 2,pdl 62 zeB zek 1 5,pdl 63 zT zeh 5 3,pdl 64 zcW zgI 6 0]
theorem zgi:TblOk tb2:=⟨⟨_,rfl,rfl,rfl,rfl⟩,⟨_,rfl,rfl,rfl,rfl⟩,⟨_,rfl,rfl,rfl,rfl⟩,⟨_,rfl,rfl,rfl,rfl⟩,by decide⟩
end Mine.Internal
end

noncomputable section
open PySem PySem.Calls PyProof.Rows PySem.SeqAt PySem.W
set_option maxRecDepth 100000
set_option maxHeartbeats 4000000
namespace Mine.Internal
theorem zq {α:Type}{l:List α}{n:Nat} (h:l.length=n+1):∃a r,l=a::r∧r.length=n:=by
 cases l with
 | nil=>exact nomatch h
 | cons a r=>exact⟨a,r,rfl,Nat.succ.inj h⟩
theorem zaH {fd:FuncData}{ns:List Str}{na:Nat} (h:∀v0,bindArgs fd ⟨[v0],[]⟩=pure ((ns.take na).zip [v0])) (vals:List Value) (e:vals.length=1):bindArgs fd ⟨vals,[]⟩=pure ((ns.take na).zip vals):=by
 refine zav (zq e) λv0 r q2_ e1=>?_;subst q2_
 cases List.length_eq_zero_iff.mp e1
 exact h v0
theorem zaG {fd:FuncData}{ns:List Str}{na:Nat} (h:∀v0 v1,bindArgs fd ⟨[v0,v1],[]⟩=pure ((ns.take na).zip [v0,v1])) (vals:List Value) (e:vals.length=2):bindArgs fd ⟨vals,[]⟩=pure ((ns.take na).zip vals):=by
 refine zav (zq e) λv0 r q2_ e1=>?_;subst q2_
 refine zav (zq e1) λv1 r q2_ e2=>?_;subst q2_
 cases List.length_eq_zero_iff.mp e2
 exact h v0 v1
theorem zdk {fd:FuncData}{ns:List Str}{na:Nat} (h:∀v0 v1 v2,bindArgs fd ⟨[v0,v1,v2],[]⟩=pure ((ns.take na).zip [v0,v1,v2])) (vals:List Value) (e:vals.length=3):bindArgs fd ⟨vals,[]⟩=pure ((ns.take na).zip vals):=by
 refine zav (zq e) λv0 r q2_ e1=>?_;subst q2_
 refine zav (zq e1) λv1 r q2_ e2=>?_;subst q2_
 refine zav (zq e2) λv2 r q2_ e3=>?_;subst q2_
 cases List.length_eq_zero_iff.mp e3
 exact h v0 v1 v2
theorem zjH {fd:FuncData}{ns:List Str}{na:Nat} (h:∀v0 v1 v2 v3 v4,bindArgs fd ⟨[v0,v1,v2,v3,v4],[]⟩=pure ((ns.take na).zip [v0,v1,v2,v3,v4])) (vals:List Value) (e:vals.length=5):bindArgs fd ⟨vals,[]⟩=pure ((ns.take na).zip vals):=by
 refine zav (zq e) λv0 r q2_ e1=>?_;subst q2_
 refine zav (zq e1) λv1 r q2_ e2=>?_;subst q2_
 refine zav (zq e2) λv2 r q2_ e3=>?_;subst q2_
 refine zav (zq e3) λv3 r q2_ e4=>?_;subst q2_
 refine zav (zq e4) λv4 r q2_ e5=>?_;subst q2_
 cases List.length_eq_zero_iff.mp e5
 exact h v0 v1 v2 v3 v4
theorem zfr {fd:FuncData}{ns:List Str}{na:Nat} (h:∀v0 v1 v2 v3 v4 v5,bindArgs fd ⟨[v0,v1,v2,v3,v4,v5],[]⟩=pure ((ns.take na).zip [v0,v1,v2,v3,v4,v5])) (vals:List Value) (e:vals.length=6):bindArgs fd ⟨vals,[]⟩=pure ((ns.take na).zip vals):=by
 refine zav (zq e) λv0 r q2_ e1=>?_;subst q2_
 refine zav (zq e1) λv1 r q2_ e2=>?_;subst q2_
 refine zav (zq e2) λv2 r q2_ e3=>?_;subst q2_
 refine zav (zq e3) λv3 r q2_ e4=>?_;subst q2_
 refine zav (zq e4) λv4 r q2_ e5=>?_;subst q2_
 refine zav (zq e5) λv5 r q2_ e6=>?_;subst q2_
 cases List.length_eq_zero_iff.mp e6
 exact h v0 v1 v2 v3 v4 v5
noncomputable def zva:Txt25:=zvW (T2 4).body ((zlz (sAt (T2 4).body 1)).getD default)
noncomputable def zuZ:Txt26:=zvV (T2 5).body ((zlz (sAt (T2 5).body 0)).getD default)
noncomputable def zsL:Str:="_int2digits.<locals>.inner"
noncomputable def zsK:Str:="_digits2int.<locals>.inner"
theorem zqm:M25 (T2 4) zva zsL where
 name:=by kernel_rfl
 body:=by kernel_rfl
 co0:=by kernel_rfl
 gen0:=by kernel_rfl
 kind0:=by kernel_rfl
 bind0:=λpm c' doc=>zaG λv0 v1=>by kernel_rfl
 q:=λpm c' doc L a=>by kernel_rfl
 d1:=by kernel_rfl
 d2:=by kernel_rfl
 ann:=λe=>by kernel_rfl
 no:=by kernel_rfl
 ni:=by kernel_rfl
 co:=by kernel_rfl
 gen:=by kernel_rfl
 kind:=by kernel_rfl
 bind:=λclos doc pm cc ctv=>zdk λv0 v1 v2=>by kernel_rfl
 ms:=by kernel_rfl
 mp:=by kernel_rfl
 n1:=by kernel_rfl
 m1:=by kernel_rfl
 n2:=by kernel_rfl
 m2:=by kernel_rfl
 n3:=by kernel_rfl
 m3:=by kernel_rfl
theorem zql:M26 (T2 5) zuZ zsK where
 name:=by kernel_rfl
 body:=by kernel_rfl
 co0:=by kernel_rfl
 gen0:=by kernel_rfl
 kind0:=by kernel_rfl
 bind0:=λpm c' doc=>zaG λv0 v1=>by kernel_rfl
 q:=λpm c' doc L a=>by kernel_rfl
 d1:=by kernel_rfl
 d2:=by kernel_rfl
 ann:=λe=>by kernel_rfl
 no:=by kernel_rfl
 ni:=by kernel_rfl
 co:=by kernel_rfl
 gen:=by kernel_rfl
 kind:=by kernel_rfl
 bind:=λclos doc pm cc ctv=>zaG λv0 v1=>by kernel_rfl
 mp:=by kernel_rfl
 n1:=by kernel_rfl
 m1:=by kernel_rfl
 n2:=by kernel_rfl
 m2:=by kernel_rfl
 mh:=by kernel_rfl
 n3:=by kernel_rfl
 m3:=by kernel_rfl
theorem zwx:PMatch (T2 2) (zh 23) zbm (nms zgK) 3 8:=⟨by kernel_rfl,by kernel_rfl,by kernel_rfl,by kernel_rfl,by kernel_rfl,by kernel_rfl,by kernel_rfl,by kernel_rfl,λpm c' doc=>zdk λv0 v1 v2=>by kernel_rfl⟩
theorem zww:PMatch (T2 3) (zh 24) zat (nms zgJ) 6 2:=⟨by kernel_rfl,by kernel_rfl,by kernel_rfl,by kernel_rfl,by kernel_rfl,by kernel_rfl,by kernel_rfl,by kernel_rfl,λpm c' doc=>zfr λv0 v1 v2 v3 v4 v5=>by kernel_rfl⟩
theorem zwv:PMatch (T2 6) (zh 27) zbQ (nms zdt) 2 7:=⟨by kernel_rfl,by kernel_rfl,by kernel_rfl,by kernel_rfl,by kernel_rfl,by kernel_rfl,by kernel_rfl,by kernel_rfl,λpm c' doc=>zaG λv0 v1=>by kernel_rfl⟩
theorem zwu:PMatch (T2 7) (zh 28) zbP (nms zds) 2 2:=⟨by kernel_rfl,by kernel_rfl,by kernel_rfl,by kernel_rfl,by kernel_rfl,by kernel_rfl,by kernel_rfl,by kernel_rfl,λpm c' doc=>zaG λv0 v1=>by kernel_rfl⟩
theorem ztg:PMatch (T2 10) (zh 21) zaa (nms zY) 1 5:=⟨by kernel_rfl,by kernel_rfl,by kernel_rfl,by kernel_rfl,by kernel_rfl,by kernel_rfl,by kernel_rfl,by kernel_rfl,λpm c' doc=>zaH λv0=>by kernel_rfl⟩
theorem ztf:PMatch (T2 11) (zh 22) zaS (nms zaN) 1 3:=⟨by kernel_rfl,by kernel_rfl,by kernel_rfl,by kernel_rfl,by kernel_rfl,by kernel_rfl,by kernel_rfl,by kernel_rfl,λpm c' doc=>zaH λv0=>by kernel_rfl⟩
theorem zte:PMatch (T2 18) (zh 60) zez (nms zei) 3 3:=⟨by kernel_rfl,by kernel_rfl,by kernel_rfl,by kernel_rfl,by kernel_rfl,by kernel_rfl,by kernel_rfl,by kernel_rfl,λpm c' doc=>zdk λv0 v1 v2=>by kernel_rfl⟩
theorem ztd:PMatch (T2 19) (zh 61) zeA (nms zej) 2 2:=⟨by kernel_rfl,by kernel_rfl,by kernel_rfl,by kernel_rfl,by kernel_rfl,by kernel_rfl,by kernel_rfl,by kernel_rfl,λpm c' doc=>zaG λv0 v1=>by kernel_rfl⟩
theorem ztc:PMatch (T2 20) (zh 62) zeB (nms zek) 1 5:=⟨by kernel_rfl,by kernel_rfl,by kernel_rfl,by kernel_rfl,by kernel_rfl,by kernel_rfl,by kernel_rfl,by kernel_rfl,λpm c' doc=>zaH λv0=>by kernel_rfl⟩
theorem ztb:PMatch (T2 21) (zh 63) zT (nms zeh) 5 3:=⟨by kernel_rfl,by kernel_rfl,by kernel_rfl,by kernel_rfl,by kernel_rfl,by kernel_rfl,by kernel_rfl,by kernel_rfl,λpm c' doc=>zjH λv0 v1 v2 v3 v4=>by kernel_rfl⟩
theorem zta:PMatch (T2 22) (zh 64) zcW (nms zgI) 6 0:=⟨by kernel_rfl,by kernel_rfl,by kernel_rfl,by kernel_rfl,by kernel_rfl,by kernel_rfl,by kernel_rfl,by kernel_rfl,λpm c' doc=>zfr λv0 v1 v2 v3 v4 v5=>by kernel_rfl⟩
theorem zpS:PMatch (T2 23) "law" zaR (nms zov) 1 26:=⟨by kernel_rfl,by kernel_rfl,by kernel_rfl,by kernel_rfl,by kernel_rfl,by kernel_rfl,by kernel_rfl,by kernel_rfl,λpm c' doc=>zaH λv0=>by kernel_rfl⟩
noncomputable def znz:GTxt:=gtxt (T2 9).body
noncomputable def zln:Pos×Pos×Expr:=((eAt (zfl znz.iter) 0).pos,znz.iter.pos,eAt (zfl znz.iter) 1)
theorem zwJ:M20 (T2 9) znz ["addr","pos","escape","ch"] zln.1 zln.2.1 zln.2.2 where
 name:=by kernel_rfl
 body:=by kernel_rfl
 ok:=by kernel_rfl
 iter:=by kernel_rfl
 mea:=by kernel_rfl
 star:=by kernel_rfl
 ke:=by kernel_rfl
 bind:=λpm c' doc v=>by kernel_rfl
 co:=by kernel_rfl
 gen:=by kernel_rfl
 kind:=by kernel_rfl
 len:=rfl
 nd:=by decide
 dbg:=by kernel_rfl
 loc:=by kernel_rfl
 nc:=by kernel_rfl
noncomputable def zvJ:TxtB1:=zvU (T2 14).body
noncomputable def zvI:TxtB3:=zvT (T2 16).body
theorem zwI:M30 (T2 14) zvJ:=⟨by kernel_rfl,by kernel_rfl,by kernel_rfl,by kernel_rfl,by kernel_rfl,λpm c' doc=>zaH λv0=>by kernel_rfl,by kernel_rfl,by kernel_rfl,by kernel_rfl⟩
theorem zwH:M31 (T2 16) zvI:=⟨by kernel_rfl,by kernel_rfl,by kernel_rfl,by kernel_rfl,by kernel_rfl,by kernel_rfl,by kernel_rfl,λpm c' doc=>zaH λv0=>by kernel_rfl,by kernel_rfl,by kernel_rfl,by kernel_rfl⟩
theorem in2 {k:Nat} (h:k∈[2,3,4,5,6,7,9,10,11,14,16,18,19,20,21,22,23]):T2 k∈zsb:=List.mem_map_of_mem (f:=λk=>T2 k) h
theorem zsa:Texts zsb tb2 where
 plain:=λq hq=>by
  simp only[tb2,tbC,List.cons_append,List.nil_append,List.mem_cons,List.not_mem_nil,or_false]at hq
  rcases hq with rfl | rfl | rfl | rfl | rfl | rfl | rfl | rfl | rfl | rfl | rfl
  ·exact⟨_,in2 (k:=10) (by decide),ztg⟩
  ·exact⟨_,in2 (k:=11) (by decide),ztf⟩
  ·exact⟨_,in2 (k:=2) (by decide),zwx⟩
  ·exact⟨_,in2 (k:=3) (by decide),zww⟩
  ·exact⟨_,in2 (k:=6) (by decide),zwv⟩
  ·exact⟨_,in2 (k:=7) (by decide),zwu⟩
  ·exact⟨_,in2 (k:=18) (by decide),zte⟩
  ·exact⟨_,in2 (k:=19) (by decide),ztd⟩
  ·exact⟨_,in2 (k:=20) (by decide),ztc⟩
  ·exact⟨_,in2 (k:=21) (by decide),ztb⟩
  ·exact⟨_,in2 (k:=22) (by decide),zta⟩
 small:=by decide
 tak:=λq hq e=>by
  simp only[tb2,tbC,List.cons_append,List.nil_append,List.mem_cons,List.not_mem_nil,or_false]at hq
  rcases hq with rfl | rfl | rfl | rfl | rfl | rfl | rfl | rfl | rfl | rfl | rfl<;>first | exact⟨rfl,rfl,rfl⟩ | (exact absurd e (by decide))
 free:=by decide
 gen:=⟨_,in2 (k:=9) (by decide),_,_,_,_,_,zwJ⟩
 f25:=⟨_,in2 (k:=4) (by decide),_,_,zqm,λ_ _=>trivial⟩
 f26:=⟨_,in2 (k:=5) (by decide),_,_,zql⟩
 f30:=⟨_,in2 (k:=14) (by decide),_,zwI⟩
 f31:=⟨_,in2 (k:=16) (by decide),_,zwH⟩
end Mine.Internal
end

noncomputable section
open PySem PySem.Builtin.Int
set_option maxRecDepth 10000
namespace Mine.Internal
noncomputable def ztL:List (List Nat):=[[102,105],[102,108],[102,102],[102,102,105],[102,102,108],[102],[105],[108],[102],[105],[108],[102],[105],[108]]
noncomputable def zpE:List Nat:=[64257,64258,64256,64259,64260,70,73,76,8497,8464,8466,119813,119816,119819]
noncomputable def zxG:List Nat:=[173,847,6150,6155,6156,6157,8203,8204,8205,8288,65279]++(List.range 16).map (65024 + ·)
noncomputable def lt2 (i:Nat):List Nat:=ztL.getD i []
noncomputable def sg2 (i:Nat):Nat:=zpE.getD i 0
noncomputable def un2 (j:Nat):Nat:=zxG.getD j 0
noncomputable def zcg (ps:List (Nat×Nat)):List Nat:=ps.flatMap λp=>[sg2 p.1,un2 p.2]
noncomputable def zbo (ps:List (Nat×Nat)):List Nat:=ps.flatMap λp=>lt2 p.1
structure Signs2 (S:Int→Bool) (T:Int→Option (List Nat)):Prop where
 sg:∀i,i < 14→S (sg2 i:Nat)=false
 un:∀j,j < 27→S (un2 j:Nat)=true
 lo:∀i,i < 14→(low (sg2 i)).length≤100∧(T (sg2 i:Nat)).getD (low (sg2 i))=lt2 i
noncomputable def eA (s:List D) (u:D) (w sp:List Nat) (o4 o5:Option B):zc:=[some (.fz (.list s)),some (.fz u),some (.fz (.str w)),some (.fz (.str sp)),o4,o5,none,none,none,none,none,none,none,none,none,none,none,none,none,none,none,none,none,none,none,none,none]
section
variable {S:Int→Bool}{T:Int→Option (List Nat)}{N:Nat}
theorem f30 {c:Nat}:FL tb2 S T 1000 60 30 [.str [c]]=some (.bool (S c)):=by rw[show(60:Nat)=59+1 from rfl,zdg zgi (by decide)];rfl
theorem f31 {c:Nat} (h:(low c).length≤100):FL tb2 S T 1000 60 31 [.str [c]]=some (.str ((T c).getD (low c))):=by rw[show(60:Nat)=59+1 from rfl,zdg zgi (by decide)];exact if_pos h
theorem fbi {f:Nat}{ds:List D} (hf:f < 10):FL tb2 S T 1000 60 f ds=bi f ds:=zud (k:=59) zgi hf
theorem zly (H:Signs2 S T):∀(ps:List (Nat×Nat)),(∀p∈ps,p.1 < 14∧p.2 < 27) →
  zbO 0 [] (λσ=>trs (FL tb2 S T 1000 60) σ [.not (.val (.call 30 [.var 0]))]) (λσ=>ev (FL tb2 S T 1000 60) σ (.call 31 [.var 0])) ((zcg ps).map λc=>.str [c])=some (ps.map λp=>.str (lt2 p.1))
 | [],_=>rfl
 | p::ps,h=>by
  refine xA (h p (by simp)) λh1 h2=>?_
  have ih:=zly H ps λq hq=>h q (by simp[hq])
  have e1:=H.sg p.1 h1
  have e2:=H.un p.2 h2
  refine xA (H.lo p.1 h1) λe3 e4=>?_
  have t1:trs (FL tb2 S T 1000 60) ([some (.fz (.str [sg2 p.1]))]) [.not (.val (.call 30 [.var 0]))]=some true:=by
   exact zwc (zse (zai (zx (zb rfl zm) ((f30 (c:=sg2 p.1)).trans (congrArg (λx=>some (D.bool x)) e1))) rfl))
  have t2:trs (FL tb2 S T 1000 60) ([some (.fz (.str [un2 p.2]))]) [.not (.val (.call 30 [.var 0]))]=some false:=by
   exact zsd (zse (zai (zx (zb rfl zm) ((f30 (c:=un2 p.2)).trans (congrArg (λx=>some (D.bool x)) e2))) rfl))
  have t3:ev (FL tb2 S T 1000 60) ([some (.fz (.str [sg2 p.1]))]) (.call 31 [.var 0])=some (.str (lt2 p.1)):=by
   exact zx (zb rfl zm) ((f31 e3).trans (by rw[e4]))
  show zbO 0 [] _ _ (.str [sg2 p.1]::.str [un2 p.2]::(zcg ps).map λc=>.str [c])=_
  simp only[zxu,zuF,Option.bind_some,List.map_cons,List.map_nil,List.append_nil,t1,t2,t3,if_true,zqF,ih,Option.map_some,Bool.false_eq_true,if_false]
theorem zid {α:Type} (f:α→List Nat):∀ps:List α,zcZ (ps.map λp=>.str (f p))=some (ps.map f)
 | []=>rfl
 | p::ps=>by simp[ss_c,zid f ps]
noncomputable def zuH:U→List U
 | .for_ _ _ _ b=>b
 | .whl _ b=>b
 | _=>[]
noncomputable def zjF:List U:=zuH (zaR.getD 3 .fail)
theorem zdW {xs:List D}{i:Nat}{d:D} (hl:xs.length≤2 ^ 20) (h:xs[i]? = some d):zho (.list xs) (.int i)=some d:=by
 rw[zgl,if_pos hl,at?,if_pos (Int.natCast_nonneg i),Int.toNat_natCast,h]
theorem zlh {α:Type}{xs:List α}{f:α→D}{i:Nat}{a:α} (h:i < xs.length):(xs.map f)[i]? = some (f (xs.getD i a)):=by
 rw[List.getElem?_map,List.getElem?_eq_getElem h,List.getD_eq_getElem?_getD,List.getElem?_eq_getElem h];rfl
theorem zwS {i:Nat} (h:i < 14):zho (.list (ztL.map .str)) (.int i)=some (.str (lt2 i))∧zho (.list (zpE.map λ(c:Nat)=>.int c)) (.int i)=some (.int (sg2 i:Nat)) :=
 ⟨zdW (by decide) (zlh h),zdW (by decide) (zlh h)⟩
noncomputable def unD:D:=.list (zxG.map λ(c:Nat)=>.int c)
theorem zwR {j:Nat} (h:j < 27):zho unD (.int j)=some (.int (un2 j:Nat)):=zdW (by decide) (zlh h)
theorem zoR {c:Nat} (h:c≤1114111):bi 5 [.int (c:Nat)]=some (.str [c]):=by
 rw[zuO,if_pos ⟨Int.natCast_nonneg c,by lia⟩,Int.toNat_natCast]
theorem zmT:∀i,i < 14→sg2 i≤1114111:=by decide
theorem znp:∀i,i < 14→(lt2 i).length≤4:=by decide
theorem zmE:∀i,i < 27→un2 i≤1114111:=by decide
theorem zuC {i:Nat} (h:i < 14):bi 5 [.int (sg2 i:Nat)]=some (.str [sg2 i]):=zoR (zmT i h)
theorem zqZ {j:Nat} (h:j < 27):bi 5 [.int (un2 j:Nat)]=some (.str [un2 j]):=zoR (zmE j h)
theorem zfO {n:Int}{m:Nat} (hm:0 < m):∃i:Nat,i < m∧n.fmod m=i:=by
 have h1:=Int.emod_nonneg n (show(m:Int)≠0 by lia)
 have h2:=Int.emod_lt_of_pos n (show(0:Int) < m by lia)
 exact⟨(n % m).toNat,by lia,by rw[zbW (by lia)];lia⟩
theorem zwk {s:List D}{w sp:List Nat}{o5:Option B}{n:Int}{i j:Nat} (hi:i < 14) (hj:j < 27) (e1:n.fmod 14=i) (e2:(n.fdiv 14).fmod 27=j) (hw:w.length≤4) (hsp:sp.length≤100) :
  exs (FL tb2 S T 1000 60) 1000 (eA s unD w sp (some (.fz (.int n))) o5) zjF=some (.next,if (w++lt2 i).length < 5 then eA s unD (w++lt2 i) (sp++[sg2 i]++[un2 j]) (some (.fz (.int n))) (some (.fz (.str (lt2 i)))) else eA s unD w sp (some (.fz (.int n))) (some (.fz (.str (lt2 i))))):=by
 refine xA (zwS hi) λx1 x2=>?_
 have x3:=zwR hj
 have x4:=zuC hi
 have x5:=zqZ hj
 have hl:=znp i hi
 have dv:zby n 14=true:=zcp (by decide) (by decide)
 have l1:w.length+(lt2 i).length≤1048576:=by lia
 have l2:sp.length+1≤1048576:=by lia
 have l3:sp.length+1+1≤1048576:=by lia
 have m1:∀ρ:zc,zbd ρ 4=some (.int n)→ev (FL tb2 S T 1000 60) ρ (.bin .Mod (.var 4) (.lit (.int 14)))=some (.int i):=λρ h=>by
  exact zk h rfl (congrArg (λx=>some (D.int x)) e1)
 have m2:∀ρ:zc,zbd ρ 4=some (.int n)→ev (FL tb2 S T 1000 60) ρ (.bin .Mod (.bin .FloorDiv (.var 4) (.lit (.int 14))) (.lit (.int 27)))=some (.int j):=λρ h=>by
  exact zk (zk h rfl (zH.trans (zls.trans (if_pos dv)))) rfl (congrArg (λx=>some (D.int x)) e2)
 have s1:ex (FL tb2 S T 1000 60) 1000 (eA s unD w sp (some (.fz (.int n))) o5) zjF[0]! = some (.next,eA s unD w sp (some (.fz (.int n))) (some (.fz (.str (lt2 i))))):=by
  show ex (FL tb2 S T 1000 60) 1000 _ (.set 5 (.sub (.list (ztL.map λx=>.lit (.str x))) (.bin .Mod (.var 4) (.lit (.int 14)))))=_
  have lits:ev (FL tb2 S T 1000 60) (eA s unD w sp (some (.fz (.int n))) o5) (.list (ztL.map λx=>.lit (.str x)))=some (.list (ztL.map .str)):=rfl
  simp only[zhV]
  rw[zhW,lits,m1 _ rfl]
  simp only[Option.bind_some,x1,zqF,Bool.true_or,if_true]
  rfl
 have c1:tr (FL tb2 S T 1000 60) (eA s unD w sp (some (.fz (.int n))) (some (.fz (.str (lt2 i))))) (.val (.cmp .Lt (.call 0 [.bin .Add (.var 2) (.var 5)]) (.lit (.int 5))))=some (decide ((w++lt2 i).length < 5)):=by
  have q1:ev (FL tb2 S T 1000 60) (eA s unD w sp (some (.fz (.int n))) (some (.fz (.str (lt2 i))))) (.bin .Add (.var 2) (.var 5))=some (.str (w++lt2 i)):=by
   exact zk rfl rfl (if_pos l1)
  have q2:bi 0 [.str (w++lt2 i)]=some (.int ((w++lt2 i).length:Nat)):=zre.trans (if_pos (by simpa using l1))
  simp only[zkf,zaK,zas,zbG,zhY,zaw,zaJ,zL]at q1 ⊢
  rw[q1]
  simp only[Option.bind_some,fbi (show 0 < 10 by decide),q2,zqY,Option.map_some,zxH]
  congr 1
  apply decide_eq_decide.mpr
  lia
 have bA:zjF=[zjF[0]!,.ite (.val (.cmp .Lt (.call 0 [.bin .Add (.var 2) (.var 5)]) (.lit (.int 5)))) [.aug 2 .Add (.var 5),.aug 3 .Add (.call 5 [.sub (.list (zpE.map λ(c:Nat)=>.lit (.int c))) (.bin .Mod (.var 4) (.lit (.int 14)))]),.aug 3 .Add (.call 5 [.sub (.var 1) (.bin .Mod (.bin .FloorDiv (.var 4) (.lit (.int 14))) (.lit (.int 27)))])] []]:=rfl
 rw[bA]
 refine(za s1).trans ?_
 by_cases hc:(w++lt2 i).length < 5
 ·rw[if_pos hc]
  have a1:zmj .Add (.str w) (.str (lt2 i))=some (.str (w++lt2 i)):=zfY.trans (if_pos (by exact l1))
  have a2:zmj .Add (.str sp) (.str [sg2 i])=some (.str (sp++[sg2 i])):=zfY.trans (if_pos (by exact l2))
  have a3:zmj .Add (.str (sp++[sg2 i])) (.str [un2 j])=some (.str (sp++[sg2 i]++[un2 j])):=zfY.trans (if_pos (by simp;lia))
  have v1:∀ρ:zc,zbd ρ 4=some (.int n)→ev (FL tb2 S T 1000 60) ρ (.call 5 [.sub (.list (zpE.map λ(c:Nat)=>.lit (.int c))) (.bin .Mod (.var 4) (.lit (.int 14)))])=some (.str [sg2 i]):=λρ h=>by
   have lits:ev (FL tb2 S T 1000 60) ρ (.list (zpE.map λ(c:Nat)=>.lit (.int c)))=some (.list (zpE.map λ(c:Nat)=>.int c)):=rfl
   have q:ev (FL tb2 S T 1000 60) ρ (.sub (.list (zpE.map λ(c:Nat)=>.lit (.int c))) (.bin .Mod (.var 4) (.lit (.int 14))))=some (.int (sg2 i:Nat)):=by
    rw[zhW,lits,m1 ρ h]
    exact x2
   rw[zaw,zL,q]
   simp only[zaJ,Option.bind_some,fbi (show 5 < 10 by decide),x4]
  have v2:∀ρ:zc,zbd ρ 4=some (.int n)→zbd ρ 1=some unD→ev (FL tb2 S T 1000 60) ρ (.call 5 [.sub (.var 1) (.bin .Mod (.bin .FloorDiv (.var 4) (.lit (.int 14))) (.lit (.int 27)))])=some (.str [un2 j]):=λρ h h'=>by
   have q:ev (FL tb2 S T 1000 60) ρ (.sub (.var 1) (.bin .Mod (.bin .FloorDiv (.var 4) (.lit (.int 14))) (.lit (.int 27))))=some (.int (un2 j:Nat)):=by
    rw[zhW,m2 ρ h]
    simp only[zas,h',Option.bind_some,x3]
   rw[zaw,zL,q]
   simp only[zaJ,Option.bind_some,fbi (show 5 < 10 by decide),x5]
  refine(za (zbe (c1.trans (by rw[decide_eq_true hc])) ((za (zbu (ρ:=eA s unD w sp (some (.fz (.int n))) (some (.fz (.str (lt2 i))))) (a:=.str w) rfl (b:=.str (lt2 i)) rfl a1)).trans
   ((za (zbu (ρ:=eA s unD (w++lt2 i) sp (some (.fz (.int n))) (some (.fz (.str (lt2 i))))) (a:=.str sp) rfl (v1 _ rfl) a2)).trans
   ((za (zbu (ρ:=eA s unD (w++lt2 i) (sp++[sg2 i]) (some (.fz (.int n))) (some (.fz (.str (lt2 i))))) (a:=.str (sp++[sg2 i])) rfl (v2 _ rfl rfl) a3)).trans rfl))))).trans rfl
 ·rw[if_neg hc]
  exact(za (zbf (c1.trans (by rw[decide_eq_false hc])))).trans rfl
theorem zsz {ps:List (Nat×Nat)}{i j:Nat}:zcg (ps++[(i,j)])=zcg ps++[sg2 i]++[un2 j]:=by simp[zcg]
theorem zkb {ps:List (Nat×Nat)}{i j:Nat}:zbo (ps++[(i,j)])=zbo ps++lt2 i:=by simp[zbo]
theorem znq:∀i,i < 14→1≤(lt2 i).length∧(lt2 i).length≤3∧∀c∈lt2 i,c=102∨c=105∨c=108:=by decide
theorem zit {i:Nat} (h:i < 14):1≤(lt2 i).length∧(lt2 i).length≤3∧∀c∈lt2 i,c=102∨c=105∨c=108:=znq i h
structure PsOk (ps:List (Nat×Nat)):Prop where
 lt:∀p∈ps,p.1 < 14∧p.2 < 27
 len:(zbo ps).length≤4
 few:ps.length≤(zbo ps).length
theorem zoq:∀ps:List (Nat×Nat),(zcg ps).length=2*ps.length
 | []=>rfl
 | p::ps=>by
  show(sg2 p.1::un2 p.2::zcg ps).length=_
  simp[zoq ps];lia
theorem ziK {X:List D}{n:Nat}:X.drop (min n X.length)=X.drop n:=by
 rcases Nat.le_total n X.length with h | h
 ·rw[Nat.min_eq_left h]
 ·rw[Nat.min_eq_right h,List.drop_of_length_le (Nat.le_refl _),List.drop_of_length_le h]
theorem PsOk.sp {ps:List (Nat×Nat)} (h:PsOk ps):(zcg ps).length≤100:=by
 have:=zoq ps
 have:=h.len;have:=h.few;lia
theorem PsOk.add {ps:List (Nat×Nat)}{i j:Nat} (h:PsOk ps) (hi:i < 14) (hj:j < 27) (hl:(zbo ps++lt2 i).length < 5):PsOk (ps++[(i,j)]) where
 lt:=λp hp=>by
  rcases List.mem_append.mp hp with q | q
  ·exact h.lt p q
  ·simp at q;subst q;exact⟨hi,hj⟩
 len:=by rw[zkb];lia
 few:=by
  rw[zkb]
  have:=h.few;have:=(zit hi).1
  simp;lia
theorem zqn {s:List D}:∀(l:List Int) (ps:List (Nat×Nat)) (o4 o5:Option B),PsOk ps→(l≠[]∨ps≠[]) →
  ∃ps' o4' o5',PsOk ps'∧ps'≠[]∧zjy 0 [4] (λρ=>exs (FL tb2 S T 1000 60) 1000 ρ zjF) (l.map .int) (eA s unD (zbo ps) (zcg ps) o4 o5)=some (.next,eA s unD (zbo ps') (zcg ps') o4' o5')
 | [],ps,o4,o5,h,hn=>⟨ps,o4,o5,h,by simpa using hn,rfl⟩
 | n::l,ps,o4,o5,h,hn=>by
  refine xEA (zfO (n:=n) (m:=14) (by decide)) λi hi e1=>?_
  refine xEA (zfO (n:=n.fdiv 14) (m:=27) (by decide)) λj hj e2=>?_
  have st:=zwk (S:=S) (T:=T) (s:=s) (o5:=o5) hi hj e1 e2 h.len h.sp
  have hb:zal (eA s unD (zbo ps) (zcg ps) o4 o5) [4] [.int n]=some (eA s unD (zbo ps) (zcg ps) (some (.fz (.int n))) o5):=rfl
  by_cases hc:(zbo ps++lt2 i).length < 5
  ·rw[if_pos hc,← zkb (j:=j),← zsz]at st
   obtain⟨ps',o4',o5',p1,p2,p3⟩:=zqn l (ps++[(i,j)]) (some (.fz (.int n))) (some (.fz (.str (lt2 i)))) (h.add hi hj hc) (.inr (by simp))
   refine⟨ps',o4',o5',p1,p2,?_⟩
   rw[List.map_cons]
   simp only[zua,zuF,Option.bind_some,hb,st,zqy]
   exact p3
  ·rw[if_neg hc]at st
   have hps:ps≠[]:=by
    rintro rfl
    have:=(zit hi).2.1
    simp[zbo]at hc
    lia
   obtain⟨ps',o4',o5',p1,p2,p3⟩:=zqn l ps (some (.fz (.int n))) (some (.fz (.str (lt2 i)))) h (.inr hps)
   refine⟨ps',o4',o5',p1,p2,?_⟩
   rw[List.map_cons]
   simp only[zua,zuF,Option.bind_some,hb,st,zqy]
   exact p3
theorem zqf {is:List Int} (hl:is.length≤63):∃l:List Int,l≠[] ∧
  sr (FL tb2 S T 1000 60) (eA (is.map .int) unD [] [] none none) 0 (.it (.bin .Add (.slc (.var 0) (.lit .none) (.lit (.int 4)) (.lit .none)) (.slc (.list [.lit (.int 1),.lit (.int 6),.lit (.int 3),.lit (.int 4)]) (.call 0 [.var 0]) (.lit .none) (.lit .none))))=some (l.map .int):=by
 refine⟨is.take 4++[1,6,3,4].drop is.length,?_,?_⟩
 ·cases is with
  | nil=>simp
  | cons a r=>simp
 ·have q1:bi 0 [.list (is.map .int)]=some (.int (is.length:Nat)):=by
   simp only[zhR]
   rw[if_pos (by simp;lia)]
   simp
  have e0:ev (FL tb2 S T 1000 60) (eA (is.map .int) unD [] [] none none) (.var 0)=some (.list (is.map .int)):=rfl
  have q2:ev (FL tb2 S T 1000 60) (eA (is.map .int) unD [] [] none none) (.slc (.var 0) (.lit .none) (.lit (.int 4)) (.lit .none))=some (.list ((is.take 4).map .int)):=by
   rw[zhX,e0]
   simp only[zaK,Option.bind_some,zvm]
   rw[if_pos ⟨by simp;lia,zZ _⟩]
   simp[zeu]
  have q3:ev (FL tb2 S T 1000 60) (eA (is.map .int) unD [] [] none none) (.slc (.list [.lit (.int 1),.lit (.int 6),.lit (.int 3),.lit (.int 4)]) (.call 0 [.var 0]) (.lit .none) (.lit .none))=some (.list ((([1,6,3,4]:List Int).drop is.length).map .int)):=by
   have f0:ev (FL tb2 S T 1000 60) (eA (is.map .int) unD [] [] none none) (.list [.lit (.int 1),.lit (.int 6),.lit (.int 3),.lit (.int 4)])=some (.list (([1,6,3,4]:List Int).map .int)):=rfl
   have f1:ev (FL tb2 S T 1000 60) (eA (is.map .int) unD [] [] none none) (.call 0 [.var 0])=some (.int (is.length:Nat)):=by
    rw[zaw,zL,e0]
    simp only[zaJ,Option.bind_some,fbi (show 0 < 10 by decide),q1]
   rw[zhX,f0,f1]
   simp only[zaK,Option.bind_some,zvm]
   rw[if_pos ⟨by simp,zZ _⟩]
   simp only[zgo,zeu,Option.map_some]
   rw[if_pos (by lia),Int.toNat_natCast,ziK,List.map_drop]
  rw[zpf,zbG,q2,q3]
  simp only[Option.bind_some,zhb,← List.map_append]
  rw[if_pos ⟨by simp;lia,zZ _⟩]
  simp only[Option.bind_some,zyi]
  rw[if_pos (zZ _)]
end
end Mine.Internal
end

noncomputable section
open PySem PySem.Builtin.Int
set_option maxRecDepth 100000
namespace Mine.Internal
structure Rw where
 f:List Nat
 ws:List (List Nat)
 hs:List (List Nat)
 os:List (List Nat)
 p:Nat
 q:Nat
 r:Nat
 cts:List (Nat×Nat×Nat)
 cs:List Nat
noncomputable def rw0:Rw:=⟨[102],[[102],[105],[108]],[[102],[108]],[[102],[105]],1,0,0,[(1,0,0),(0,1,0),(0,0,1)],[1,1,0,0,0,1]⟩
noncomputable def rw1:Rw:=⟨[102,102],[[102,102],[102,105],[105,105],[102,108],[105,108],[108,108]],[[102,102],[102,108],[108,108]],[[102,102],[102,105],[105,105]],2,0,0,[(2,0,0),(1,1,0),(0,2,0),(1,0,1),(0,1,1),(0,0,2)],[1,1,1,0,0,1,1,0,0,0,1]⟩
noncomputable def rw2:Rw:=⟨[105,102],[[105,102],[108,102],[108,105]],[[105,102],[108,102]],[[105,102],[108,105]],1,1,0,[(1,1,0),(1,0,1),(0,1,1)],[0,1,0,0,0,1,1]⟩
noncomputable def rw3:Rw:=⟨[102,102,102],[[102,102,102],[102,102,105],[102,105,105],[102,102,108],[105,105,105],[102,105,108],[105,105,108],[102,108,108],[105,108,108],[108,108,108]],[[102,102,102],[102,102,108],[102,108,108],[108,108,108]],[[102,102,102],[102,102,105],[102,105,105],[105,105,105]],3,0,0,[(3,0,0),(2,1,0),(1,2,0),(2,0,1),(0,3,0),(1,1,1),(0,2,1),(1,0,2),(0,1,2),(0,0,3)],[1,1,1,1,0,1,1,1,0,0,1,1,0,0,0,1]⟩
noncomputable def rw4:Rw:=⟨[102,105,102],[[102,105,102],[105,105,102],[102,108,102],[105,108,102],[102,108,105],[108,108,102],[105,108,105],[108,108,105]],[[102,105,102],[102,108,102],[105,108,102],[108,108,102]],[[102,105,102],[105,105,102],[102,108,105],[105,108,105]],2,1,0,[(2,1,0),(1,2,0),(2,0,1),(1,1,1),(1,1,1),(1,0,2),(0,2,1),(0,1,2)],[0,1,1,0,0,1,2,1,0,0,1,1]⟩
noncomputable def rw5:Rw:=⟨[105,102,102],[[105,102,102],[105,102,105],[108,102,102],[105,102,108],[108,102,105],[108,102,108],[108,105,105],[108,105,108]],[[105,102,102],[108,102,102],[105,102,108],[108,102,108]],[[105,102,102],[105,102,105],[108,102,105],[108,105,105]],2,1,0,[(2,1,0),(1,2,0),(2,0,1),(1,1,1),(1,1,1),(1,0,2),(0,2,1),(0,1,2)],[0,1,1,0,0,1,2,1,0,0,1,1]⟩
noncomputable def rw6:Rw:=⟨[108,105,102],[[108,105,102]],[[108,105,102]],[[108,105,102]],1,1,1,[(1,1,1)],[0,0,0,0,0,0,1]⟩
noncomputable def rw7:Rw:=⟨[102,102,102,102],[[102,102,102,102],[102,102,102,105],[102,102,105,105],[102,102,102,108],[102,105,105,105],[102,102,105,108],[105,105,105,105],[102,105,105,108],[102,102,108,108],[105,105,105,108],[102,105,108,108],[105,105,108,108],[102,108,108,108],[105,108,108,108],[108,108,108,108]],[[102,102,102,102],[102,102,102,108],[102,102,108,108],[102,108,108,108],[108,108,108,108]],[[102,102,102,102],[102,102,102,105],[102,102,105,105],[102,105,105,105],[105,105,105,105]],4,0,0,[(4,0,0),(3,1,0),(2,2,0),(3,0,1),(1,3,0),(2,1,1),(0,4,0),(1,2,1),(2,0,2),(0,3,1),(1,1,2),(0,2,2),(1,0,3),(0,1,3),(0,0,4)],[1,1,1,1,1,1,1,1,1,0,1,1,1,0,0,1,1,0,0,0,1]⟩
noncomputable def rw8:Rw:=⟨[102,102,105,102],[[102,102,105,102],[102,105,105,102],[102,102,108,102],[105,105,105,102],[102,105,108,102],[102,102,108,105],[105,105,108,102],[102,108,108,102],[102,105,108,105],[105,108,108,102],[102,108,108,105],[105,105,108,105],[108,108,108,102],[105,108,108,105],[108,108,108,105]],[[102,102,105,102],[102,102,108,102],[102,105,108,102],[102,108,108,102],[105,108,108,102],[108,108,108,102]],[[102,102,105,102],[102,105,105,102],[105,105,105,102],[102,102,108,105],[102,105,108,105],[105,105,108,105]],3,1,0,[(3,1,0),(2,2,0),(3,0,1),(1,3,0),(2,1,1),(2,1,1),(1,2,1),(2,0,2),(1,2,1),(1,1,2),(1,1,2),(0,3,1),(1,0,3),(0,2,2),(0,1,3)],[0,1,1,1,0,1,2,2,1,0,1,2,1,0,0,1,1]⟩
noncomputable def rw9:Rw:=⟨[102,105,102,102],[[102,105,102,102],[102,105,102,105],[102,108,102,102],[105,105,102,105],[102,105,102,108],[102,108,102,105],[105,105,102,108],[102,108,102,108],[102,108,105,105],[105,108,102,108],[102,108,105,108],[105,108,105,105],[108,108,102,108],[105,108,105,108],[108,108,105,108]],[[102,105,102,102],[102,108,102,102],[102,105,102,108],[102,108,102,108],[105,108,102,108],[108,108,102,108]],[[102,105,102,102],[102,105,102,105],[105,105,102,105],[102,108,102,105],[102,108,105,105],[105,108,105,105]],3,1,0,[(3,1,0),(2,2,0),(3,0,1),(1,3,0),(2,1,1),(2,1,1),(1,2,1),(2,0,2),(1,2,1),(1,1,2),(1,1,2),(0,3,1),(1,0,3),(0,2,2),(0,1,3)],[0,1,1,1,0,1,2,2,1,0,1,2,1,0,0,1,1]⟩
noncomputable def zjU:Rw:=⟨[102,108,105,102],[[102,108,105,102],[105,108,105,102],[108,108,105,102]],[[102,108,105,102],[108,108,105,102]],[[102,108,105,102],[105,108,105,102]],2,1,1,[(2,1,1),(1,2,1),(1,1,2)],[0,0,0,0,0,0,1,1,0,0,0,1]⟩
noncomputable def zjT:Rw:=⟨[105,102,102,102],[[105,102,102,102],[105,102,102,105],[108,102,102,102],[105,102,105,105],[105,102,102,108],[108,102,102,105],[105,102,105,108],[108,102,102,108],[108,102,105,105],[105,102,108,108],[108,102,105,108],[108,105,105,105],[108,102,108,108],[108,105,105,108],[108,105,108,108]],[[105,102,102,102],[108,102,102,102],[105,102,102,108],[108,102,102,108],[105,102,108,108],[108,102,108,108]],[[105,102,102,102],[105,102,102,105],[105,102,105,105],[108,102,102,105],[108,102,105,105],[108,105,105,105]],3,1,0,[(3,1,0),(2,2,0),(3,0,1),(1,3,0),(2,1,1),(2,1,1),(1,2,1),(2,0,2),(1,2,1),(1,1,2),(1,1,2),(0,3,1),(1,0,3),(0,2,2),(0,1,3)],[0,1,1,1,0,1,2,2,1,0,1,2,1,0,0,1,1]⟩
noncomputable def zjS:Rw:=⟨[105,102,105,102],[[105,102,105,102],[105,102,108,102],[105,102,108,105],[108,102,108,102],[108,102,108,105],[108,105,108,105]],[[105,102,105,102],[105,102,108,102],[108,102,108,102]],[[105,102,105,102],[105,102,108,105],[108,105,108,105]],2,2,0,[(2,2,0),(2,1,1),(1,2,1),(2,0,2),(1,1,2),(0,2,2)],[0,0,1,0,0,0,1,1,0,0,1,1,1]⟩
noncomputable def zjR:Rw:=⟨[105,105,102,102],[[105,105,102,102],[105,108,102,102],[105,108,102,105],[108,108,102,102],[108,108,102,105],[108,108,105,105]],[[105,105,102,102],[105,108,102,102],[108,108,102,102]],[[105,105,102,102],[105,108,102,105],[108,108,105,105]],2,2,0,[(2,2,0),(2,1,1),(1,2,1),(2,0,2),(1,1,2),(0,2,2)],[0,0,1,0,0,0,1,1,0,0,1,1,1]⟩
noncomputable def zjQ:Rw:=⟨[108,102,105,102],[[108,102,105,102],[108,105,105,102],[108,105,108,102]],[[108,102,105,102],[108,105,108,102]],[[108,102,105,102],[108,105,105,102]],2,1,1,[(2,1,1),(1,2,1),(1,1,2)],[0,0,0,0,0,0,1,1,0,0,0,1]⟩
noncomputable def zjP:Rw:=⟨[108,105,102,102],[[108,105,102,102],[108,105,102,105],[108,105,102,108]],[[108,105,102,102],[108,105,102,108]],[[108,105,102,102],[108,105,102,105]],2,1,1,[(2,1,1),(1,2,1),(1,1,2)],[0,0,0,0,0,0,1,1,0,0,0,1]⟩
noncomputable def zbi:List Rw:=[rw0,rw1,rw2,rw3,rw4,rw5,rw6,rw7,rw8,rw9,zjU,zjT,zjS,zjR,zjQ,zjP]
noncomputable def zmM:List (List Nat×Nat×List Nat):=[
 ([102],0,[102]),
 ([105],0,[102]),
 ([108],0,[102]),
 ([102,102],1,[102,102]),
 ([102,105],1,[102,102]),
 ([102,108],1,[102,102]),
 ([105,102],2,[105,102]),
 ([105,105],1,[102,102]),
 ([105,108],1,[102,102]),
 ([108,102],2,[105,102]),
 ([108,105],2,[105,102]),
 ([108,108],1,[102,102]),
 ([102,102,102],3,[102,102,102]),
 ([102,102,105],3,[102,102,102]),
 ([102,102,108],3,[102,102,102]),
 ([102,105,102],4,[102,105,102]),
 ([102,105,105],3,[102,102,102]),
 ([102,105,108],3,[102,102,102]),
 ([102,108,102],4,[102,105,102]),
 ([102,108,105],4,[102,105,102]),
 ([102,108,108],3,[102,102,102]),
 ([105,102,102],5,[105,102,102]),
 ([105,102,105],5,[105,102,102]),
 ([105,102,108],5,[105,102,102]),
 ([105,105,102],4,[102,105,102]),
 ([105,105,105],3,[102,102,102]),
 ([105,105,108],3,[102,102,102]),
 ([105,108,102],4,[102,105,102]),
 ([105,108,105],4,[102,105,102]),
 ([105,108,108],3,[102,102,102]),
 ([108,102,102],5,[105,102,102]),
 ([108,102,105],5,[105,102,102]),
 ([108,102,108],5,[105,102,102]),
 ([108,105,102],6,[108,105,102]),
 ([108,105,105],5,[105,102,102]),
 ([108,105,108],5,[105,102,102]),
 ([108,108,102],4,[102,105,102]),
 ([108,108,105],4,[102,105,102]),
 ([108,108,108],3,[102,102,102]),
 ([102,102,102,102],7,[102,102,102,102]),
 ([102,102,102,105],7,[102,102,102,102]),
 ([102,102,102,108],7,[102,102,102,102]),
 ([102,102,105,102],8,[102,102,105,102]),
 ([102,102,105,105],7,[102,102,102,102]),
 ([102,102,105,108],7,[102,102,102,102]),
 ([102,102,108,102],8,[102,102,105,102]),
 ([102,102,108,105],8,[102,102,105,102]),
 ([102,102,108,108],7,[102,102,102,102]),
 ([102,105,102,102],9,[102,105,102,102]),
 ([102,105,102,105],9,[102,105,102,102]),
 ([102,105,102,108],9,[102,105,102,102]),
 ([102,105,105,102],8,[102,102,105,102]),
 ([102,105,105,105],7,[102,102,102,102]),
 ([102,105,105,108],7,[102,102,102,102]),
 ([102,105,108,102],8,[102,102,105,102]),
 ([102,105,108,105],8,[102,102,105,102]),
 ([102,105,108,108],7,[102,102,102,102]),
 ([102,108,102,102],9,[102,105,102,102]),
 ([102,108,102,105],9,[102,105,102,102]),
 ([102,108,102,108],9,[102,105,102,102]),
 ([102,108,105,102],10,[102,108,105,102]),
 ([102,108,105,105],9,[102,105,102,102]),
 ([102,108,105,108],9,[102,105,102,102]),
 ([102,108,108,102],8,[102,102,105,102]),
 ([102,108,108,105],8,[102,102,105,102]),
 ([102,108,108,108],7,[102,102,102,102]),
 ([105,102,102,102],11,[105,102,102,102]),
 ([105,102,102,105],11,[105,102,102,102]),
 ([105,102,102,108],11,[105,102,102,102]),
 ([105,102,105,102],12,[105,102,105,102]),
 ([105,102,105,105],11,[105,102,102,102]),
 ([105,102,105,108],11,[105,102,102,102]),
 ([105,102,108,102],12,[105,102,105,102]),
 ([105,102,108,105],12,[105,102,105,102]),
 ([105,102,108,108],11,[105,102,102,102]),
 ([105,105,102,102],13,[105,105,102,102]),
 ([105,105,102,105],9,[102,105,102,102]),
 ([105,105,102,108],9,[102,105,102,102]),
 ([105,105,105,102],8,[102,102,105,102]),
 ([105,105,105,105],7,[102,102,102,102]),
 ([105,105,105,108],7,[102,102,102,102]),
 ([105,105,108,102],8,[102,102,105,102]),
 ([105,105,108,105],8,[102,102,105,102]),
 ([105,105,108,108],7,[102,102,102,102]),
 ([105,108,102,102],13,[105,105,102,102]),
 ([105,108,102,105],13,[105,105,102,102]),
 ([105,108,102,108],9,[102,105,102,102]),
 ([105,108,105,102],10,[102,108,105,102]),
 ([105,108,105,105],9,[102,105,102,102]),
 ([105,108,105,108],9,[102,105,102,102]),
 ([105,108,108,102],8,[102,102,105,102]),
 ([105,108,108,105],8,[102,102,105,102]),
 ([105,108,108,108],7,[102,102,102,102]),
 ([108,102,102,102],11,[105,102,102,102]),
 ([108,102,102,105],11,[105,102,102,102]),
 ([108,102,102,108],11,[105,102,102,102]),
 ([108,102,105,102],14,[108,102,105,102]),
 ([108,102,105,105],11,[105,102,102,102]),
 ([108,102,105,108],11,[105,102,102,102]),
 ([108,102,108,102],12,[105,102,105,102]),
 ([108,102,108,105],12,[105,102,105,102]),
 ([108,102,108,108],11,[105,102,102,102]),
 ([108,105,102,102],15,[108,105,102,102]),
 ([108,105,102,105],15,[108,105,102,102]),
 ([108,105,102,108],15,[108,105,102,102]),
 ([108,105,105,102],14,[108,102,105,102]),
 ([108,105,105,105],11,[105,102,102,102]),
 ([108,105,105,108],11,[105,102,102,102]),
 ([108,105,108,102],14,[108,102,105,102]),
 ([108,105,108,105],12,[105,102,105,102]),
 ([108,105,108,108],11,[105,102,102,102]),
 ([108,108,102,102],13,[105,105,102,102]),
 ([108,108,102,105],13,[105,105,102,102]),
 ([108,108,102,108],9,[102,105,102,102]),
 ([108,108,105,102],10,[102,108,105,102]),
 ([108,108,105,105],13,[105,105,102,102]),
 ([108,108,105,108],9,[102,105,102,102]),
 ([108,108,108,102],8,[102,102,105,102]),
 ([108,108,108,105],8,[102,102,105,102]),
 ([108,108,108,108],7,[102,102,102,102])]
noncomputable def isT (o:Option D) (y:List Nat):Bool:=(o.bind λd=>zaT d some) == some y
theorem zoy {o:Option D}{y:List Nat} (h:isT o y=true):o=some (.str y):=by
 refine zf (eq_of_beq h) λd h1 h2=>?_
 refine xEA (zF h2) λx q_ h3=>?_
 rw[h1,q_,zp h3]
noncomputable def fiD:D:=.list [.str [102,105],.str [105,108]]
noncomputable def ilD:D:=.list [.str [105,108],.str [102,105]]
section
variable {S:Int→Bool}{T:Int→Option (List Nat)}
theorem ap3 {α:Type}{p:α→Bool}{l:List α}{n:Nat} (h1:(l.take n).all p=true) (h2:(l.drop n).all p=true):l.all p=true:=by
 rw[← List.take_append_drop n l,List.all_append,h1,h2];rfl
noncomputable abbrev k61 (S:Int→Bool) (T:Int→Option (List Nat)) (t:List Nat×Nat×List Nat):Bool:=isT (FL tb2 S T 1000 60 61 [.str t.1,fiD]) (zbi.getD t.2.1 rw0).f && isT (FL tb2 S T 1000 60 61 [.str t.1,ilD]) t.2.2 && decide (t.2.1 < 16)
theorem c61a:(zmM.take 30).all (k61 S T)=true:=by kernel_rfl
theorem c61b:((zmM.drop 30).take 30).all (k61 S T)=true:=by kernel_rfl
theorem c61c:(((zmM.drop 30).drop 30).take 30).all (k61 S T)=true:=by kernel_rfl
theorem c61d:(((zmM.drop 30).drop 30).drop 30).all (k61 S T)=true:=by kernel_rfl
theorem c61:zmM.all (λt=>isT (FL tb2 S T 1000 60 61 [.str t.1,fiD]) (zbi.getD t.2.1 rw0).f && isT (FL tb2 S T 1000 60 61 [.str t.1,ilD]) t.2.2 && decide (t.2.1 < 16))=true:=show zmM.all (k61 S T)=true from ap3 c61a (ap3 c61b (ap3 c61c c61d))
noncomputable def e6 (s u w sp o4 o5:Option B) (f:List Nat):zc:=[s,u,w,sp,o4,o5,some (.fz (.str f)),none,none,none,none,none,none,none,none,none,none,none,none,none,none,none,none,none,none,none,none]
noncomputable def zeX (l:List (List Nat)):D:=.list (l.map .str)
noncomputable def e9 (s u w sp o4 o5:Option B) (R:Rw):zc:=[s,u,w,sp,o4,o5,some (.fz (.str R.f)),some (.fz (zeX R.ws)),some (.fz (zeX R.hs)),some (.fz (zeX R.os)),none,none,none,none,none,none,none,none,none,none,none,none,none,none,none,none,none]
noncomputable def zfU:List U:=(zaR.drop 6).take 5
theorem rc0 {s u w sp o4 o5:Option B}:exs (FL tb2 S T 1000 60) 1000 (e6 s u w sp o4 o5 rw0.f) zfU=some (.next,e9 s u w sp o4 o5 rw0):=by kernel_rfl
theorem rc1 {s u w sp o4 o5:Option B}:exs (FL tb2 S T 1000 60) 1000 (e6 s u w sp o4 o5 rw1.f) zfU=some (.next,e9 s u w sp o4 o5 rw1):=by kernel_rfl
theorem rc2 {s u w sp o4 o5:Option B}:exs (FL tb2 S T 1000 60) 1000 (e6 s u w sp o4 o5 rw2.f) zfU=some (.next,e9 s u w sp o4 o5 rw2):=by kernel_rfl
theorem rc3 {s u w sp o4 o5:Option B}:exs (FL tb2 S T 1000 60) 1000 (e6 s u w sp o4 o5 rw3.f) zfU=some (.next,e9 s u w sp o4 o5 rw3):=by kernel_rfl
theorem rc4 {s u w sp o4 o5:Option B}:exs (FL tb2 S T 1000 60) 1000 (e6 s u w sp o4 o5 rw4.f) zfU=some (.next,e9 s u w sp o4 o5 rw4):=by kernel_rfl
theorem rc5 {s u w sp o4 o5:Option B}:exs (FL tb2 S T 1000 60) 1000 (e6 s u w sp o4 o5 rw5.f) zfU=some (.next,e9 s u w sp o4 o5 rw5):=by kernel_rfl
theorem rc6 {s u w sp o4 o5:Option B}:exs (FL tb2 S T 1000 60) 1000 (e6 s u w sp o4 o5 rw6.f) zfU=some (.next,e9 s u w sp o4 o5 rw6):=by kernel_rfl
theorem rc7 {s u w sp o4 o5:Option B}:exs (FL tb2 S T 1000 60) 1000 (e6 s u w sp o4 o5 rw7.f) zfU=some (.next,e9 s u w sp o4 o5 rw7):=by kernel_rfl
theorem rc8 {s u w sp o4 o5:Option B}:exs (FL tb2 S T 1000 60) 1000 (e6 s u w sp o4 o5 rw8.f) zfU=some (.next,e9 s u w sp o4 o5 rw8):=by kernel_rfl
theorem rc9 {s u w sp o4 o5:Option B}:exs (FL tb2 S T 1000 60) 1000 (e6 s u w sp o4 o5 rw9.f) zfU=some (.next,e9 s u w sp o4 o5 rw9):=by kernel_rfl
theorem rc10 {s u w sp o4 o5:Option B}:exs (FL tb2 S T 1000 60) 1000 (e6 s u w sp o4 o5 zjU.f) zfU=some (.next,e9 s u w sp o4 o5 zjU):=by kernel_rfl
theorem rc11 {s u w sp o4 o5:Option B}:exs (FL tb2 S T 1000 60) 1000 (e6 s u w sp o4 o5 zjT.f) zfU=some (.next,e9 s u w sp o4 o5 zjT):=by kernel_rfl
theorem rc12 {s u w sp o4 o5:Option B}:exs (FL tb2 S T 1000 60) 1000 (e6 s u w sp o4 o5 zjS.f) zfU=some (.next,e9 s u w sp o4 o5 zjS):=by kernel_rfl
theorem rc13 {s u w sp o4 o5:Option B}:exs (FL tb2 S T 1000 60) 1000 (e6 s u w sp o4 o5 zjR.f) zfU=some (.next,e9 s u w sp o4 o5 zjR):=by kernel_rfl
theorem rc14 {s u w sp o4 o5:Option B}:exs (FL tb2 S T 1000 60) 1000 (e6 s u w sp o4 o5 zjQ.f) zfU=some (.next,e9 s u w sp o4 o5 zjQ):=by kernel_rfl
theorem rc15 {s u w sp o4 o5:Option B}:exs (FL tb2 S T 1000 60) 1000 (e6 s u w sp o4 o5 zjP.f) zfU=some (.next,e9 s u w sp o4 o5 zjP):=by kernel_rfl
end
end Mine.Internal
end

noncomputable section
open PySem PySem.Builtin.Int
set_option maxRecDepth 100000
namespace Mine.Internal
noncomputable def six (x y z:Int) (p q r:Nat):Int:=x ^ p*(y ^ q*z ^ r - z ^ q*y ^ r)+y ^ p*(z ^ q*x ^ r - x ^ q*z ^ r)+z ^ p*(x ^ q*y ^ r - y ^ q*x ^ r)
noncomputable def wgt (x y z:Int) (t:Nat×Nat×Nat):Int:=x ^ t.1*y ^ t.2.1*z ^ t.2.2
noncomputable def cnt (o:List Nat) (c:Nat):Int:=Txt.count ⟨o.toArray⟩ ⟨#[c]⟩
noncomputable def zqX (o:List Nat):Int×Int×Int:=(cnt o 102,cnt o 105,cnt o 108)
noncomputable def sgl (R:Rw):List (List Nat):=R.ws.filter λx=>R.hs.contains x && R.os.contains x
noncomputable def zdr:List (List Nat):=[[105,108],[108,102],[102,105],[108,105],[102,108],[105,102]]
theorem zfT {F:Fns}{ρ:zc}{i:Nat}{caps:List Nat}{ifs:List Q}{elt:T}{d:D}{ds:List D} (h:zbd ρ i=some d) (hc:caps.map (zbd ρ)=ds.map some) :
  ev F ρ (.comp 0 caps (.it (.var i)) ifs elt)=(zce 0 d).bind λitems=>if 2 ^ 20 < items.length then none else(zbO 0 (ds.map λd=>some (.fz d)) (λσ=>trs F σ ifs) (λσ=>ev F σ elt) items).map .list:=by
 have e:∀ds:List D,(ds.map some).mapM id=some ds:=λds=>by
  induction ds with
  | nil=>rfl
  | cons a r ih=>simp[List.mapM_cons,ih]
 simp only[zas,zhm,zpf,h,Option.bind_some,hc,e]
noncomputable def isI (o:Option D) (l:List Int):Bool:=(o.bind λd=>zad d zbD) == some l
theorem zoz {o:Option D}{l:List Int} (h:isI o l=true):o=some (.list (l.map .int)):=by
 refine zf (eq_of_beq h) λd h1 h2=>?_
 refine xEA (zaL h2) λx q_ h3=>?_
 rw[h1,q_,zfH h3]
noncomputable def isS (o:Option D) (l:List (List Nat)):Bool:=(o.bind λd=>zad d zcZ) == some l
theorem zkw:∀{xs:List D}{l:List (List Nat)},zcZ xs=some l→xs=l.map .str
 | [],l,h=>by cases h;rfl
 | d::r,l,h=>by
  refine xEA (zF h) λx q_ h=>?_
  subst q_
  refine zhB h λl' h1=>?_
  rw[zkw h1];rfl
theorem ztQ {o:Option D}{l:List (List Nat)} (h:isS o l=true):o=some (zeX l):=by
 refine zf (eq_of_beq h) λd h1 h2=>?_
 refine xEA (zaL h2) λx q_ h3=>?_
 rw[h1,q_,zkw h3];rfl
noncomputable def plF (F:Fns) (R:Rw) (pr:List Nat):Option D:=(zce 0 (zeX R.ws)).bind λitems=>if 2 ^ 20 < items.length then none else(zbO 0 ([D.str pr].map λd=>some (.fz d)) (λσ=>trs F σ []) (λσ=>ev F σ (.bin .Add (.meth .count (.var 0) [.sub (.var 1) (.lit (.int 0))]) (.bin .Mult (.lit (.int 5)) (.meth .count (.var 0) [.sub (.var 1) (.lit (.int 1))])))) items).map .list
noncomputable def plL (R:Rw) (pr:List Nat):List Int:=R.ws.map λo=>cnt o (pr.getD 0 0)+5*cnt o (pr.getD 1 0)
noncomputable def sgF (F:Fns) (R:Rw):Option D:=(zce 0 (zeX R.ws)).bind λitems=>if 2 ^ 20 < items.length then none else(zbO 0 ([zeX R.hs,zeX R.os].map λd=>some (.fz d)) (λσ=>trs F σ [.and (.val (.cmp .In (.var 0) (.var 1))) (.val (.cmp .In (.var 0) (.var 2)))]) (λσ=>ev F σ (.var 0)) items).map .list
section
variable {S:Int→Bool}{T:Int→Option (List Nat)}
theorem znu:zbi.all (λR=>isS (sgF (FL tb2 S T 1000 60) R) (sgl R))=true:=by kernel_rfl
theorem ztO:zmM.all (λt=>sgl (zbi.getD t.2.1 rw0) == [t.2.2])=true:=by kernel_rfl
theorem zwN:zbi.all (λR=>(R.ws.map zqX == R.cts.map λt=>((t.1:Int),(t.2.1:Int),(t.2.2:Int))) && (zqX R.f == ((R.p:Int),(R.q:Int),(R.r:Int))) && R.cts.all (λt=>decide (t.1≤4) && decide (t.2.1≤4) && decide (t.2.2≤4)) && decide (R.p+R.q+R.r≤4))=true:=by kernel_rfl
theorem k_pl:zbi.all (λR=>zdr.all λpr=>isI (plF (FL tb2 S T 1000 60) R pr) (plL R pr))=true:=by kernel_rfl
theorem zwM:zbi.all (λR=>zdr.all λpr=>isI (ev (FL tb2 S T 1000 60) [some (.fz (.list ((plL R pr).map .int)))] (.comp 0 [0] (.call 8 [.bin .Add (.call 4 [.var 0]) (.lit (.int 1))]) [] (.meth .count (.var 1) [.var 0]))) (R.cs.map λ(c:Nat)=>(c:Int)))=true:=by kernel_rfl
theorem zyh:zbi.all (λR=>R.cs.all (λc=>decide (c < 32)) && decide (0 < R.cs.getLastD 0) && decide (R.cs.length≤21) && decide (R.ws.length≤15))=true:=by kernel_rfl
theorem wy0 (x y z:Int):zn (rw0.cts.map (wgt x y z))*six x y z 2 1 0=six x y z (rw0.p+2) (rw0.q+1) rw0.r:=by
 simp only[rw0,List.map_cons,List.map_nil,zn,List.foldl_cons,List.foldl_nil,six,wgt]
 grind
theorem dg0 (m:Nat):zn (rw0.cts.map (wgt 1 (2 ^ m) ((2 ^ m) ^ 5)))=val m (rw0.cs.map λ(c:Nat)=>(c:Int)):=by
 simp only[rw0,List.map_cons,List.map_nil,zn,List.foldl_cons,List.foldl_nil,zdn,zdo,wgt]
 generalize (2:Int) ^ m=B
 grind
theorem wy1 (x y z:Int):zn (rw1.cts.map (wgt x y z))*six x y z 2 1 0=six x y z (rw1.p+2) (rw1.q+1) rw1.r:=by
 simp only[rw1,List.map_cons,List.map_nil,zn,List.foldl_cons,List.foldl_nil,six,wgt]
 grind
theorem dg1 (m:Nat):zn (rw1.cts.map (wgt 1 (2 ^ m) ((2 ^ m) ^ 5)))=val m (rw1.cs.map λ(c:Nat)=>(c:Int)):=by
 simp only[rw1,List.map_cons,List.map_nil,zn,List.foldl_cons,List.foldl_nil,zdn,zdo,wgt]
 generalize (2:Int) ^ m=B
 grind
theorem wy2 (x y z:Int):zn (rw2.cts.map (wgt x y z))*six x y z 2 1 0=six x y z (rw2.p+2) (rw2.q+1) rw2.r:=by
 simp only[rw2,List.map_cons,List.map_nil,zn,List.foldl_cons,List.foldl_nil,six,wgt]
 grind
theorem dg2 (m:Nat):zn (rw2.cts.map (wgt 1 (2 ^ m) ((2 ^ m) ^ 5)))=val m (rw2.cs.map λ(c:Nat)=>(c:Int)):=by
 simp only[rw2,List.map_cons,List.map_nil,zn,List.foldl_cons,List.foldl_nil,zdn,zdo,wgt]
 generalize (2:Int) ^ m=B
 grind
theorem wy3 (x y z:Int):zn (rw3.cts.map (wgt x y z))*six x y z 2 1 0=six x y z (rw3.p+2) (rw3.q+1) rw3.r:=by
 simp only[rw3,List.map_cons,List.map_nil,zn,List.foldl_cons,List.foldl_nil,six,wgt]
 grind
theorem dg3 (m:Nat):zn (rw3.cts.map (wgt 1 (2 ^ m) ((2 ^ m) ^ 5)))=val m (rw3.cs.map λ(c:Nat)=>(c:Int)):=by
 simp only[rw3,List.map_cons,List.map_nil,zn,List.foldl_cons,List.foldl_nil,zdn,zdo,wgt]
 generalize (2:Int) ^ m=B
 grind
theorem wy4 (x y z:Int):zn (rw4.cts.map (wgt x y z))*six x y z 2 1 0=six x y z (rw4.p+2) (rw4.q+1) rw4.r:=by
 simp only[rw4,List.map_cons,List.map_nil,zn,List.foldl_cons,List.foldl_nil,six,wgt]
 grind
theorem dg4 (m:Nat):zn (rw4.cts.map (wgt 1 (2 ^ m) ((2 ^ m) ^ 5)))=val m (rw4.cs.map λ(c:Nat)=>(c:Int)):=by
 simp only[rw4,List.map_cons,List.map_nil,zn,List.foldl_cons,List.foldl_nil,zdn,zdo,wgt]
 generalize (2:Int) ^ m=B
 grind
theorem wy5 (x y z:Int):zn (rw5.cts.map (wgt x y z))*six x y z 2 1 0=six x y z (rw5.p+2) (rw5.q+1) rw5.r:=by
 simp only[rw5,List.map_cons,List.map_nil,zn,List.foldl_cons,List.foldl_nil,six,wgt]
 grind
theorem dg5 (m:Nat):zn (rw5.cts.map (wgt 1 (2 ^ m) ((2 ^ m) ^ 5)))=val m (rw5.cs.map λ(c:Nat)=>(c:Int)):=by
 simp only[rw5,List.map_cons,List.map_nil,zn,List.foldl_cons,List.foldl_nil,zdn,zdo,wgt]
 generalize (2:Int) ^ m=B
 grind
theorem wy6 (x y z:Int):zn (rw6.cts.map (wgt x y z))*six x y z 2 1 0=six x y z (rw6.p+2) (rw6.q+1) rw6.r:=by
 simp only[rw6,List.map_cons,List.map_nil,zn,List.foldl_cons,List.foldl_nil,six,wgt]
 grind
theorem dg6 (m:Nat):zn (rw6.cts.map (wgt 1 (2 ^ m) ((2 ^ m) ^ 5)))=val m (rw6.cs.map λ(c:Nat)=>(c:Int)):=by
 simp only[rw6,List.map_cons,List.map_nil,zn,List.foldl_cons,List.foldl_nil,zdn,zdo,wgt]
 generalize (2:Int) ^ m=B
 grind
theorem wy7 (x y z:Int):zn (rw7.cts.map (wgt x y z))*six x y z 2 1 0=six x y z (rw7.p+2) (rw7.q+1) rw7.r:=by
 simp only[rw7,List.map_cons,List.map_nil,zn,List.foldl_cons,List.foldl_nil,six,wgt]
 grind
theorem dg7 (m:Nat):zn (rw7.cts.map (wgt 1 (2 ^ m) ((2 ^ m) ^ 5)))=val m (rw7.cs.map λ(c:Nat)=>(c:Int)):=by
 simp only[rw7,List.map_cons,List.map_nil,zn,List.foldl_cons,List.foldl_nil,zdn,zdo,wgt]
 generalize (2:Int) ^ m=B
 grind
theorem wy8 (x y z:Int):zn (rw8.cts.map (wgt x y z))*six x y z 2 1 0=six x y z (rw8.p+2) (rw8.q+1) rw8.r:=by
 simp only[rw8,List.map_cons,List.map_nil,zn,List.foldl_cons,List.foldl_nil,six,wgt]
 grind
theorem dg8 (m:Nat):zn (rw8.cts.map (wgt 1 (2 ^ m) ((2 ^ m) ^ 5)))=val m (rw8.cs.map λ(c:Nat)=>(c:Int)):=by
 simp only[rw8,List.map_cons,List.map_nil,zn,List.foldl_cons,List.foldl_nil,zdn,zdo,wgt]
 generalize (2:Int) ^ m=B
 grind
theorem wy9 (x y z:Int):zn (rw9.cts.map (wgt x y z))*six x y z 2 1 0=six x y z (rw9.p+2) (rw9.q+1) rw9.r:=by
 simp only[rw9,List.map_cons,List.map_nil,zn,List.foldl_cons,List.foldl_nil,six,wgt]
 grind
theorem dg9 (m:Nat):zn (rw9.cts.map (wgt 1 (2 ^ m) ((2 ^ m) ^ 5)))=val m (rw9.cs.map λ(c:Nat)=>(c:Int)):=by
 simp only[rw9,List.map_cons,List.map_nil,zn,List.foldl_cons,List.foldl_nil,zdn,zdo,wgt]
 generalize (2:Int) ^ m=B
 grind
theorem wy10 (x y z:Int):zn (zjU.cts.map (wgt x y z))*six x y z 2 1 0=six x y z (zjU.p+2) (zjU.q+1) zjU.r:=by
 simp only[zjU,List.map_cons,List.map_nil,zn,List.foldl_cons,List.foldl_nil,six,wgt]
 grind
theorem dg10 (m:Nat):zn (zjU.cts.map (wgt 1 (2 ^ m) ((2 ^ m) ^ 5)))=val m (zjU.cs.map λ(c:Nat)=>(c:Int)):=by
 simp only[zjU,List.map_cons,List.map_nil,zn,List.foldl_cons,List.foldl_nil,zdn,zdo,wgt]
 generalize (2:Int) ^ m=B
 grind
theorem wy11 (x y z:Int):zn (zjT.cts.map (wgt x y z))*six x y z 2 1 0=six x y z (zjT.p+2) (zjT.q+1) zjT.r:=by
 simp only[zjT,List.map_cons,List.map_nil,zn,List.foldl_cons,List.foldl_nil,six,wgt]
 grind
theorem dg11 (m:Nat):zn (zjT.cts.map (wgt 1 (2 ^ m) ((2 ^ m) ^ 5)))=val m (zjT.cs.map λ(c:Nat)=>(c:Int)):=by
 simp only[zjT,List.map_cons,List.map_nil,zn,List.foldl_cons,List.foldl_nil,zdn,zdo,wgt]
 generalize (2:Int) ^ m=B
 grind
theorem wy12 (x y z:Int):zn (zjS.cts.map (wgt x y z))*six x y z 2 1 0=six x y z (zjS.p+2) (zjS.q+1) zjS.r:=by
 simp only[zjS,List.map_cons,List.map_nil,zn,List.foldl_cons,List.foldl_nil,six,wgt]
 grind
theorem dg12 (m:Nat):zn (zjS.cts.map (wgt 1 (2 ^ m) ((2 ^ m) ^ 5)))=val m (zjS.cs.map λ(c:Nat)=>(c:Int)):=by
 simp only[zjS,List.map_cons,List.map_nil,zn,List.foldl_cons,List.foldl_nil,zdn,zdo,wgt]
 generalize (2:Int) ^ m=B
 grind
theorem wy13 (x y z:Int):zn (zjR.cts.map (wgt x y z))*six x y z 2 1 0=six x y z (zjR.p+2) (zjR.q+1) zjR.r:=by
 simp only[zjR,List.map_cons,List.map_nil,zn,List.foldl_cons,List.foldl_nil,six,wgt]
 grind
theorem dg13 (m:Nat):zn (zjR.cts.map (wgt 1 (2 ^ m) ((2 ^ m) ^ 5)))=val m (zjR.cs.map λ(c:Nat)=>(c:Int)):=by
 simp only[zjR,List.map_cons,List.map_nil,zn,List.foldl_cons,List.foldl_nil,zdn,zdo,wgt]
 generalize (2:Int) ^ m=B
 grind
theorem wy14 (x y z:Int):zn (zjQ.cts.map (wgt x y z))*six x y z 2 1 0=six x y z (zjQ.p+2) (zjQ.q+1) zjQ.r:=by
 simp only[zjQ,List.map_cons,List.map_nil,zn,List.foldl_cons,List.foldl_nil,six,wgt]
 grind
theorem dg14 (m:Nat):zn (zjQ.cts.map (wgt 1 (2 ^ m) ((2 ^ m) ^ 5)))=val m (zjQ.cs.map λ(c:Nat)=>(c:Int)):=by
 simp only[zjQ,List.map_cons,List.map_nil,zn,List.foldl_cons,List.foldl_nil,zdn,zdo,wgt]
 generalize (2:Int) ^ m=B
 grind
theorem wy15 (x y z:Int):zn (zjP.cts.map (wgt x y z))*six x y z 2 1 0=six x y z (zjP.p+2) (zjP.q+1) zjP.r:=by
 simp only[zjP,List.map_cons,List.map_nil,zn,List.foldl_cons,List.foldl_nil,six,wgt]
 grind
theorem dg15 (m:Nat):zn (zjP.cts.map (wgt 1 (2 ^ m) ((2 ^ m) ^ 5)))=val m (zjP.cs.map λ(c:Nat)=>(c:Int)):=by
 simp only[zjP,List.map_cons,List.map_nil,zn,List.foldl_cons,List.foldl_nil,zdn,zdo,wgt]
 generalize (2:Int) ^ m=B
 grind
theorem zqh {P:Rw→Prop}{R:Rw} (h:R∈zbi) (k:P rw0∧P rw1∧P rw2∧P rw3∧P rw4∧P rw5∧P rw6∧P rw7∧P rw8∧P rw9∧P zjU∧P zjT∧P zjS∧P zjR∧P zjQ∧P zjP):P R:=(fa k.1 (fa k.2.1 (fa k.2.2.1 (fa k.2.2.2.1 (fa k.2.2.2.2.1 (fa k.2.2.2.2.2.1 (fa k.2.2.2.2.2.2.1 (fa k.2.2.2.2.2.2.2.1 (fa k.2.2.2.2.2.2.2.2.1 (fa k.2.2.2.2.2.2.2.2.2.1 (fa k.2.2.2.2.2.2.2.2.2.2.1 (fa k.2.2.2.2.2.2.2.2.2.2.2.1 (fa k.2.2.2.2.2.2.2.2.2.2.2.2.1 (fa k.2.2.2.2.2.2.2.2.2.2.2.2.2.1 (fa k.2.2.2.2.2.2.2.2.2.2.2.2.2.2.1 (fa k.2.2.2.2.2.2.2.2.2.2.2.2.2.2.2 (λ_ h=>nomatch h)))))))))))))))):∀t∈zbi,P t) R h
theorem zwp {R:Rw} (h:R∈zbi) {s u w sp o4 o5:Option B}:exs (FL tb2 S T 1000 60) 1000 (e6 s u w sp o4 o5 R.f) zfU=some (.next,e9 s u w sp o4 o5 R) :=
 zqh (P:=λR=>exs (FL tb2 S T 1000 60) 1000 (e6 s u w sp o4 o5 R.f) zfU=some (.next,e9 s u w sp o4 o5 R)) h ⟨rc0,rc1,rc2,rc3,rc4,rc5,rc6,rc7,rc8,rc9,rc10,rc11,rc12,rc13,rc14,rc15⟩
theorem zsG {R:Rw} (h:R∈zbi) (x y z:Int):zn (R.cts.map (wgt x y z))*six x y z 2 1 0=six x y z (R.p+2) (R.q+1) R.r :=
 zqh (P:=λR=>zn (R.cts.map (wgt x y z))*six x y z 2 1 0=six x y z (R.p+2) (R.q+1) R.r) h ⟨wy0 x y z,wy1 x y z,wy2 x y z,wy3 x y z,wy4 x y z,wy5 x y z,wy6 x y z,wy7 x y z,wy8 x y z,wy9 x y z,wy10 x y z,wy11 x y z,wy12 x y z,wy13 x y z,wy14 x y z,wy15 x y z⟩
theorem zwo {R:Rw} (h:R∈zbi) (m:Nat):zn (R.cts.map (wgt 1 (2 ^ m) ((2 ^ m) ^ 5)))=val m (R.cs.map λ(c:Nat)=>(c:Int)) :=
 zqh (P:=λR=>zn (R.cts.map (wgt 1 (2 ^ m) ((2 ^ m) ^ 5)))=val m (R.cs.map λ(c:Nat)=>(c:Int))) h ⟨dg0 m,dg1 m,dg2 m,dg3 m,dg4 m,dg5 m,dg6 m,dg7 m,dg8 m,dg9 m,dg10 m,dg11 m,dg12 m,dg13 m,dg14 m,dg15 m⟩
end
end Mine.Internal
end

noncomputable section
open PySem PySem.Builtin.Int
set_option maxRecDepth 10000
namespace Mine.Internal
theorem zmh {x y:Int}{m n:Nat} (hx:intBits x≤m) (hy:intBits y≤n):intBits (x*y)≤m+n:=PySem.intBits_mul_le hx hy
theorem zeN {x:Int}{m k:Nat} (hx:intBits x≤m):intBits (x ^ k)≤m*k+1:=PySem.intBits_pow_le hx k
theorem zuQ {x y:Int}{m:Nat} (hx:intBits x≤m) (hy:intBits y≤m):intBits (x - y)≤m+1:=by have:=PySem.intBits_sub_le hx hy;lia
theorem zrh {x y:Int}{m:Nat} (hx:intBits x≤m) (hy:intBits y≤m):intBits (x+y)≤m+1:=by have:=PySem.intBits_add_le hx hy;lia
theorem zbE {x:Int}{m n:Nat} (hx:intBits x≤m) (h:m≤n):intBits x≤n:=Nat.le_trans hx h
theorem zdC {x y z:Int}{m p q r:Nat} (hx:intBits x≤m) (hy:intBits y≤m) (hz:intBits z≤m):intBits (six x y z p q r)≤m*(p+q+r)+6:=by
 have e:m*(p+q+r)=m*p+m*q+m*r:=by rw[Nat.mul_add,Nat.mul_add]
 have t:∀a b c:Int,intBits a≤m→intBits b≤m→intBits c≤m→intBits (a ^ p*(b ^ q*c ^ r - c ^ q*b ^ r))≤m*(p+q+r)+4:=λa b c ha hb hc=>by
  have h1:=zmh (zeN (k:=q) hb) (zeN (k:=r) hc)
  have h2:=zmh (zeN (k:=q) hc) (zeN (k:=r) hb)
  have h3:=zuQ h1 h2
  exact zbE (zmh (zeN (k:=p) ha) h3) (by lia)
 unfold six
 exact zrh (zrh (t x y z hx hy hz) (t y z x hy hz hx)) (zbE (t z x y hz hx hy) (by lia))
theorem run6 {F:Fns}{N:Nat}{x y z:Int}{m p q r:Nat} (hx:intBits x≤m) (hy:intBits y≤m) (hz:intBits z≤m) (hm:m≤3000) (hp:p≤8) (hq:q≤8) (hr:r≤8) :
  zbJ F N 0 zcW [.int x,.int y,.int z,.int p,.int q,.int r]=some (.int (six x y z p q r)):=by
 have e20:(2:Int) ^ 20=1048576:=rfl
 have mp:m*p≤24000:=Nat.le_trans (Nat.mul_le_mul hm hp) (by decide)
 have mq:m*q≤24000:=Nat.le_trans (Nat.mul_le_mul hm hq) (by decide)
 have mr:m*r≤24000:=Nat.le_trans (Nat.mul_le_mul hm hr) (by decide)
 have pw:∀(a:Int) (k:Nat),intBits a≤m→k≤8→zcs .Pow (.int a) (.int k)=some (.int (a ^ k)):=λa k ha hk=>by
  have:(intBits a:Int)*k≤2 ^ 20:=by
   have h1:intBits a*k≤3000*8:=Nat.mul_le_mul (by lia) hk
   have h2:((intBits a*k:Nat):Int)=(intBits a:Int)*k:=by simp
   lia
  simp only[zH,zlq]
  rw[if_pos ⟨by lia,this⟩,Int.toNat_natCast]
 have ml:∀(a b:Int),intBits a≤100010→intBits b≤100010→zcs .Mult (.int a) (.int b)=some (.int (a*b)):=λa b ha hb=>by
  simp only[zH,zlr]
  have e:(2:Nat) ^ 20=1048576:=rfl
  rw[if_pos (by lia)]
 have sb:∀a b:Int,zcs .Sub (.int a) (.int b)=some (.int (a - b)):=λa b=>rfl
 have ad:∀a b:Int,zcs .Add (.int a) (.int b)=some (.int (a+b)):=λa b=>rfl
 have bp:∀(a:Int) (k:Nat),intBits a≤m→k≤8→intBits (a ^ k)≤24001:=λa k ha hk=>zbE (zeN (k:=k) ha) (by have:=Nat.mul_le_mul hm hk;lia)
 have b2:∀(a b:Int) (k l:Nat),intBits a≤m→intBits b≤m→k≤8→l≤8→intBits (a ^ k*b ^ l)≤48002:=λa b k l ha hb hk hl=>zmh (bp a k ha hk) (bp b l hb hl)
 have b3:∀(a b:Int) (k l:Nat),intBits a≤m→intBits b≤m→k≤8→l≤8→intBits (a ^ k*b ^ l - b ^ k*a ^ l)≤48003:=λa b k l ha hb hk hl=>zuQ (b2 a b k l ha hb hk hl) (b2 b a k l hb ha hk hl)
 have L:∀a:D,(D.int x=a→True):=λ_ _=>trivial
 apply zbc
 refine zO (e:=_) ?_ ?_
 ·simp only[List.map_cons,List.map_nil,List.replicate,List.append_nil,zas,zbG,zbd,List.getElem?_cons_zero,List.getElem?_cons_succ,Option.bind_some,
   pw x p hx hp,pw y q hy hq,pw z r hz hr,pw z q hz hq,pw y r hy hr,pw y p hy hp,pw x r hx hr,pw x q hx hq,pw z p hz hp]
  rw[ml (y ^ q) (z ^ r) (zbE (bp y q hy hq) (by decide)) (zbE (bp z r hz hr) (by decide)),ml (z ^ q) (y ^ r) (zbE (bp z q hz hq) (by decide)) (zbE (bp y r hy hr) (by decide)),
   ml (z ^ q) (x ^ r) (zbE (bp z q hz hq) (by decide)) (zbE (bp x r hx hr) (by decide)),ml (x ^ q) (z ^ r) (zbE (bp x q hx hq) (by decide)) (zbE (bp z r hz hr) (by decide)),
   ml (x ^ q) (y ^ r) (zbE (bp x q hx hq) (by decide)) (zbE (bp y r hy hr) (by decide)),ml (y ^ q) (x ^ r) (zbE (bp y q hy hq) (by decide)) (zbE (bp x r hx hr) (by decide))]
  simp only[Option.bind_some,sb]
  rw[ml (x ^ p) _ (zbE (bp x p hx hp) (by decide)) (zbE (b3 y z q r hy hz hq hr) (by decide)),ml (y ^ p) _ (zbE (bp y p hy hp) (by decide)) (zbE (b3 z x q r hz hx hq hr) (by decide)),
   ml (z ^ p) _ (zbE (bp z p hz hp) (by decide)) (zbE (b3 x y q r hx hy hq hr) (by decide))]
  rfl
 ·rfl
noncomputable def eN (B:List (Option B)) (vs:List D) (n:Nat):zc:=B++(vs.map (λd=>some (.fz d))++List.replicate n none)
theorem zE {F:Fns}{N:Nat}{B:List (Option B)}{vs:List D}{n i:Nat}{e:T}{d:D} (hi:i=B.length+vs.length) (h:ev F (eN B vs (n+1)) e=some d) (hf:(zbp d || fre e)=true) :
  ex F N (eN B vs (n+1)) (.set i e)=some (.next,eN B (vs++[d]) n):=by
 simp only[zhV,h,Option.bind_some,hf,if_true]
 congr 2
 subst hi
 unfold zaU eN
 rw[List.set_append_right _ _ (by lia),List.set_append_right _ _ (by simp),List.length_map]
 simp[List.replicate_succ]
end Mine.Internal
end

noncomputable section
open PySem PySem.Builtin.Int
set_option maxRecDepth 10000
namespace Mine.Internal
theorem zkM {a:Int}{k:Nat} (h:intBits a≤4000) (hk:k≤200):zcs .Pow (.int a) (.int k)=some (.int (a ^ k)):=by
 have e20:(2:Int) ^ 20=1048576:=rfl
 have:(intBits a:Int)*k≤2 ^ 20:=by
  have h1:intBits a*k≤4000*200:=Nat.mul_le_mul h hk
  have h2:((intBits a*k:Nat):Int)=(intBits a:Int)*k:=by simp
  lia
 simp only[zH,zlq]
 rw[if_pos ⟨by lia,this⟩,Int.toNat_natCast]
theorem ztw {a b:Int} (ha:intBits a≤200000) (hb:intBits b≤200000):zcs .Mult (.int a) (.int b)=some (.int (a*b)):=by
 simp only[zH,zlr]
 have e:(2:Nat) ^ 20=1048576:=rfl
 rw[if_pos (by lia)]
noncomputable def elW:T:=.bin .Mult (.bin .Mult (.bin .Pow (.var 2) (.meth .count (.var 0) [.lit (.str [102])])) (.bin .Pow (.var 3) (.meth .count (.var 0) [.lit (.str [105])]))) (.bin .Pow (.var 1) (.meth .count (.var 0) [.lit (.str [108])]))
theorem zeS {F:Fns}{x y z:Int}{m:Nat} (hx:intBits x≤m) (hy:intBits y≤m) (hz:intBits z≤m) (hm:m≤3000):∀(ws:List (List Nat)) (cts:List (Nat×Nat×Nat)),ws.map zqX=cts.map (λt=>((t.1:Int),(t.2.1:Int),(t.2.2:Int)))→(∀t∈cts,t.1≤4∧t.2.1≤4∧t.2.2≤4) →
  zbO 0 [some (.fz (.int z)),some (.fz (.int x)),some (.fz (.int y))] (λσ=>trs F σ []) (λσ=>ev F σ elW) (ws.map .str)=some (cts.map λt=>.int (wgt x y z t))
 | [],[],_,_=>rfl
 | [],_::_,h,_=>by simp at h
 | _::_,[],h,_=>by simp at h
 | w::ws,t::cts,h,ht=>by
  simp only[List.map_cons,List.cons.injEq]at h
  refine xA h λh1 h2=>?_;clear h
  refine xAA (ht t (by simp)) λt1 t2 t3=>?_
  have ih:=zeS (F:=F) hx hy hz hm ws cts h2 λt' ht'=>ht t' (by simp[ht'])
  simp only[zqX,cnt,Prod.mk.injEq]at h1
  refine xAA h1 λc1 c2 c3=>?_;clear h1
  have e:ev F ([some (.fz (.str w))]++[some (.fz (.int z)),some (.fz (.int x)),some (.fz (.int y))]) elW=some (.int (wgt x y z t)):=by
   have k1:∀k:Nat,k≤4→m*k≤12000:=λk hk=>Nat.le_trans (Nat.mul_le_mul hm hk) (by decide)
   have b1:=zeN (k:=t.1) hx
   have b2:=zeN (k:=t.2.1) hy
   have b3:=zeN (k:=t.2.2) hz
   have q1:=k1 _ t1
   have q2:=k1 _ t2
   have q3:=k1 _ t3
   simp only[elW,zaK,zas,zbG,zdS,zaJ,zL,zqx,zoB,List.cons_append,List.nil_append,Option.bind_some,zdH,c1,c2,c3]
   rw[zkM (by lia) (by lia),zkM (by lia) (by lia),zkM (by lia) (by lia)]
   simp only[Option.bind_some]
   rw[ztw (zbE b1 (by lia)) (zbE b2 (by lia))]
   simp only[Option.bind_some]
   rw[ztw (zbE (zmh b1 b2) (by lia)) (zbE b3 (by lia))]
   rfl
  simp only[List.map_cons,zxu,zuF,Option.bind_some,List.map_nil]
  rw[show trs F ([some (.fz (.str w))]++[some (.fz (.int z)),some (.fz (.int x)),some (.fz (.int y))]) []=some true from rfl,e]
  simp only[Option.bind_some,if_true,zqG,ih,Option.map_some]
theorem zrd:∃M:Int,0 < M∧M≤2 ^ 1994∧∀(F:Fns) (ρ:zc),ev F ρ (.bin .Pow (.lit (.int 10)) (.lit (.int 600)))=some (.int M):=by
 refine⟨10 ^ 600,Int.pow_pos (by decide),?_,λF ρ=>?_⟩
 ·have h:(10:Nat) ^ 600≤2 ^ 1994:=by decide +kernel
  have e1:((10 ^ 600:Nat):Int)=10 ^ 600:=Int.natCast_pow 10 600
  have e2:((2 ^ 1994:Nat):Int)=2 ^ 1994:=Int.natCast_pow 2 1994
  rw[← e1,← e2]
  exact Int.ofNat_le.mpr h
 ·simp only[zaK,zbG,Option.bind_some,zH,zlq]
  rw[if_pos (by decide +kernel)]
  rfl
theorem znB {a b:Int} (hb:b < 0):b < a.fmod b∧a.fmod b≤0:=by
 have q1:=Int.mul_fdiv_add_fmod (-a) (-b)
 have q2:=Int.mul_fdiv_add_fmod a b
 rw[Int.neg_fdiv_neg,Int.neg_mul]at q1
 have e:(-a).fmod (-b)=(-a) % (-b):=zbW (by lia)
 have h1:=Int.emod_nonneg (-a) (show -b≠0 by lia)
 have h2:=Int.emod_lt_of_pos (-a) (show 0 < -b by lia)
 lia
theorem ziA {a b:Int} (hb:0 < b):0≤a.fmod b∧a.fmod b < b:=by
 rw[zbW (Int.le_of_lt hb)]
 exact⟨Int.emod_nonneg _ (Int.ne_of_gt hb),Int.emod_lt_of_pos _ hb⟩
theorem zlB {W u t:Int} (hu:u≠0):(W*u+t.fmod u).fdiv u=W∧(W*u+t.fmod u).fmod u=t.fmod u:=by
 have h1:(W*u+t.fmod u).fdiv u=W:=by
  have q2:=Int.mul_fdiv_add_fmod t u
  have e:W*u+t.fmod u=t+(W - t.fdiv u)*u:=by
   rw[Int.sub_mul,Int.mul_comm (t.fdiv u) u];lia
  rw[e,Int.add_mul_fdiv_right _ _ hu];lia
 refine⟨h1,?_⟩
 have q1:=Int.mul_fdiv_add_fmod (W*u+t.fmod u) u
 rw[h1,Int.mul_comm u W]at q1
 lia
theorem zpD {x y z:Int} (h1:z < x) (h2:x < y):six x y z 2 1 0 < 0:=by
 have e:six x y z 2 1 0 = -((y - x)*(y - z)*(x - z)):=by unfold six;grind
 rw[e]
 have:0 < (y - x)*(y - z)*(x - z):=Int.mul_pos (Int.mul_pos (by lia) (by lia)) (by lia)
 lia
theorem zmJ {F:Fns}{ρ:zc}{is:List Int} (hF:∀ds,F 0 ds=bi 0 ds) (h0:zbd ρ 0=some (.list (is.map .int))) (hl:is.length≤63):∃a b c:Int,
  ev F ρ (.bin .Add (.slc (.var 0) (.lit (.int 4)) (.lit (.int 7)) (.lit .none)) (.slc (.list [.un .USub (.lit (.int 3)),.lit (.int 6),.lit (.int 1)]) (.call 0 [.slc (.var 0) (.lit (.int 4)) (.lit (.int 7)) (.lit .none)]) (.lit .none) (.lit .none)))=some (.list [.int a,.int b,.int c]):=by
 have e1:ev F ρ (.slc (.var 0) (.lit (.int 4)) (.lit (.int 7)) (.lit .none))=some (.list ((((is.take (min 7 is.length)).drop (min 4 is.length))).map .int)):=by
  simp only[zaK,zas,zhX,h0,Option.bind_some,zvm]
  rw[if_pos ⟨by simp;lia,zZ _⟩]
  simp only[zmS,zeu,Option.map_some,List.length_map,List.map_drop,List.map_take]
  rfl
 have hlen:((is.take (min 7 is.length)).drop (min 4 is.length)).length≤3:=by simp;lia
 generalize (is.take (min 7 is.length)).drop (min 4 is.length)=l at e1 hlen
 have q1:bi 0 [.list (l.map .int)]=some (.int (l.length:Nat)):=by
  simp only[zhR]
  rw[if_pos (by simp;lia)]
  simp
 have e2:ev F ρ (.slc (.list [.un .USub (.lit (.int 3)),.lit (.int 6),.lit (.int 1)]) (.call 0 [.slc (.var 0) (.lit (.int 4)) (.lit (.int 7)) (.lit .none)]) (.lit .none) (.lit .none))=some (.list (([-3,6,1]:List Int).map D.int |>.drop l.length)):=by
  have f0:ev F ρ (.list [.un .USub (.lit (.int 3)),.lit (.int 6),.lit (.int 1)])=some (.list (([-3,6,1]:List Int).map .int)):=rfl
  have f1:ev F ρ (.call 0 [.slc (.var 0) (.lit (.int 4)) (.lit (.int 7)) (.lit .none)])=some (.int (l.length:Nat)):=by
   rw[zaw,zL,e1]
   simp only[zaJ,Option.bind_some,hF,q1]
  rw[zhX,f0,f1]
  simp only[zaK,Option.bind_some,zvm]
  rw[if_pos ⟨by simp,zZ _⟩]
  simp only[zgo,zeu,Option.map_some]
  rw[if_pos (by lia),Int.toNat_natCast,ziK]
 rw[zbG,e1,e2]
 simp only[Option.bind_some,zhb]
 rcases l with _ | ⟨a,_ | ⟨b,_ | ⟨c,_ | ⟨d,l⟩⟩⟩⟩
 ·exact⟨_,_,_,rfl⟩
 ·exact⟨_,_,_,rfl⟩
 ·exact⟨_,_,_,rfl⟩
 ·exact⟨_,_,_,rfl⟩
 ·exact absurd hlen (by simp)
end Mine.Internal
end

noncomputable section
open PySem PySem.Builtin.Int
set_option maxRecDepth 10000
namespace Mine.Internal
section
variable {F:Fns}{ρ:zc}
end
section
variable {S:Int→Bool}{T:Int→Option (List Nat)}
noncomputable def bR (s u w sp o4 o5:Option B) (R:Rw):List (Option B):=[s,u,w,sp,o4,o5,some (.fz (.str R.f)),some (.fz (zeX R.ws)),some (.fz (zeX R.hs)),some (.fz (zeX R.os))]
theorem zgu {R:Rw} (h:R∈zbi):R.ws.map zqX=R.cts.map (λt=>((t.1:Int),(t.2.1:Int),(t.2.2:Int)))∧zqX R.f=((R.p:Int),(R.q:Int),(R.r:Int))∧(∀t∈R.cts,t.1≤4∧t.2.1≤4∧t.2.2≤4)∧R.p+R.q+R.r≤4:=by
 have:=List.all_eq_true.mp zwN R h
 simp only[Bool.and_eq_true,beq_iff_eq,List.all_eq_true,decide_eq_true_eq]at this
 obtain⟨⟨⟨h1,h2⟩,h3⟩,h4⟩:=this
 exact⟨h1,h2,λt ht=>⟨(h3 t ht).1.1,(h3 t ht).1.2,(h3 t ht).2⟩,h4⟩
theorem zlA:∀l:List (List Nat),zg (l.map .str)=true
 | []=>rfl
 | a::r=>by simp[zde,zqF,zlA r]
theorem f64 {x y z:Int}{m p q r:Nat} (hx:intBits x≤m) (hy:intBits y≤m) (hz:intBits z≤m) (hm:m≤3000) (hp:p≤8) (hq:q≤8) (hr:r≤8) :
  FL tb2 S T 1000 60 64 [.int x,.int y,.int z,.int p,.int q,.int r]=some (.int (six x y z p q r)):=by
 rw[show(60:Nat)=59+1 from rfl,zep (us:=zcW) (na:=6) (nk:=0) ⟨_,rfl,rfl,rfl,rfl⟩ (by decide) rfl]
 exact run6 hx hy hz hm hp hq hr
theorem f28 {a b:Int} (hb0:b≠0) (ha:intBits a≤39999) (hb:intBits b≤40000):FL tb2 S T 1000 60 28 [.int a,.int b]=some (.tup [.int (a.fdiv b),.int (a.fmod b)]) :=
 zxe (k:=59) zgi (by decide) (by decide) hb0 ha hb
theorem f25 {a:Int}{m:Nat} (h0:0≤a) (hm0:0 < m) (hm:m≤50000) (ha:intBits a≤50000):FL tb2 S T 1000 60 25 [.int a,.int m]=some (.list ((zfn m ((intBits a+m - 1) / m) a).map .int)) :=
 zue (k:=59) zgi h0 hm0 hm ha (by decide)
theorem zwA {u w sp o4 o5:Option B}{R:Rw} (hR:R∈zbi) {is:List Int} (hl:is.length≤63) :
  ∃(three:D) (x y z p q r whole under added:Int),p=(R.p+2:Nat)∧q=(R.q+1:Nat)∧r=(R.r:Nat) ∧
  ∀rest,exs (FL tb2 S T 1000 60) 1000 (eN (bR (some (.fz (.list (is.map .int)))) u w sp o4 o5 R) [] 17) ((zaR.drop 12).take 12++rest)=exs (FL tb2 S T 1000 60) 1000 (eN (bR (some (.fz (.list (is.map .int)))) u w sp o4 o5 R) [.int (zn is),three,.int x,.int y,.int z,.int p,.int q,.int r,.int whole,.int under,.int added] 6) rest:=by
 refine zeR (zgu hR) λR1 R2 R3 R4=>?_
 obtain⟨M,hM0,hM1,pw⟩:=zrd
 refine xEEE (zmJ (F:=(FL tb2 S T 1000 60)) (ρ:=eN (bR (some (.fz (.list (is.map .int)))) u w sp o4 o5 R) [.int (zn is)] 16) (is:=is) (λds=>fbi (by decide)) rfl hl) λa b c h3=>?_
 refine xA (ziA (a:=a) hM0) λxb1 xb2=>?_
 refine xA (ziA (a:=-a) hM0) λxc1 xc2=>?_
 refine xA (ziA (a:=b) hM0) λyb1 yb2=>?_
 refine xA (ziA (a:=c) hM0) λzb1 zb2=>?_
 obtain⟨x,hxe,hx1,hx2⟩:∃x,x=(if 0 < a then a.fmod M else -(-a).fmod M)∧-M < x∧x < M:=by
  refine⟨_,rfl,?_,?_⟩<;>split<;>lia
 obtain⟨y,hye⟩:∃y,y=x+1+b.fmod M:=⟨_,rfl⟩
 obtain⟨z,hze⟩:∃z,z=x - 1 - c.fmod M:=⟨_,rfl⟩
 have hzx:z < x:=by lia
 have hxy:x < y:=by lia
 have e94:((2 ^ 1994:Nat):Int)=2 ^ 1994:=Int.natCast_pow 2 1994
 have hMn:M≤((2 ^ 1994:Nat):Int):=by rw[e94];exact hM1
 have p94:(2:Nat) ^ 2000=64*2 ^ 1994:=by rw[show(2000:Nat)=6+1994 from rfl,Nat.pow_add]
 have p1:1≤(2:Nat) ^ 1994:=Nat.one_le_two_pow
 have hbx:intBits x≤2000:=by rw[zP,p94];generalize (2:Nat) ^ 1994=P at *;lia
 have hby:intBits y≤2000:=by rw[zP,p94];generalize (2:Nat) ^ 1994=P at *;lia
 have hbz:intBits z≤2000:=by rw[zP,p94];generalize (2:Nat) ^ 1994=P at *;lia
 have hneg:=zpD hzx hxy
 have W:=zsG hR x y z
 have bu:=zdC (p:=2) (q:=1) (r:=0) hbx hby hbz
 have bs:=zdC (p:=R.p+2) (q:=R.q+1) (r:=R.r) hbx hby hbz
 refine xA (znB (a:=zn is) hneg) λad1 ad2=>?_
 refine xA (zlB (W:=zn (R.cts.map (wgt x y z))) (t:=zn is) (Int.ne_of_lt hneg)) λdv1 dv2=>?_
 have ba:intBits ((zn is).fmod (six x y z 2 1 0))≤6006:=PySem.intBits_le_of_natAbs (y:=six x y z 2 1 0) (by lia) (zbE bu (by decide))
 have bs':intBits (six x y z (R.p+2) (R.q+1) R.r)≤14006:=zbE bs (by
  have:2000*(R.p+2+(R.q+1)+R.r)≤2000*7:=Nat.mul_le_mul_left _ (by lia)
  lia)
 have btot:intBits (six x y z (R.p+2) (R.q+1) R.r+(zn is).fmod (six x y z 2 1 0))≤39999:=zbE (zrh bs' (zbE ba (by decide))) (by decide)
 simp only[zqX,cnt,Prod.mk.injEq]at R2
 refine xAA R2 λC1 C2 C3=>?_;clear R2
 let Bs:=bR (some (.fz (.list (is.map .int)))) u w sp o4 o5 R
 have t12:ev (FL tb2 S T 1000 60) (eN Bs [] 17) (.call 2 [.var 0])=some (.int (zn is)):=by
  have:zbd (eN Bs [] 17) 0=some (.list (is.map .int)):=rfl
  simp only[zas,zaw,zaJ,zL,this,Option.bind_some,fbi (show 2 < 10 by decide),zoU,zdK,Option.map_some]
 have modv:∀v:Int,zcs .Mod (.int v) (.int M)=some (.int (v.fmod M)):=λv=>by
  have hMb:(M != 0)=true:=by simp;lia
  exact if_pos hMb
 have mod_M:∀{ρ:zc}{e:Mine.Internal.T}{v:Int},ev (FL tb2 S T 1000 60) ρ e=some (.int v)→ev (FL tb2 S T 1000 60) ρ (.bin .Mod e (.bin .Pow (.lit (.int 10)) (.lit (.int 600))))=some (.int (v.fmod M)):=λh=>zk h (pw _ _) (modv _)
 have t14:ev (FL tb2 S T 1000 60) (eN Bs [.int (zn is),.list [.int a,.int b,.int c]] 15) (.ife (.val (.cmp .Gt (.sub (.var 11) (.lit (.int 0))) (.lit (.int 0)))) (.bin .Mod (.sub (.var 11) (.lit (.int 0))) (.bin .Pow (.lit (.int 10)) (.lit (.int 600)))) (.un .USub (.bin .Mod (.un .USub (.sub (.var 11) (.lit (.int 0)))) (.bin .Pow (.lit (.int 10)) (.lit (.int 600))))))=some (.int x):=by
  have s0:ev (FL tb2 S T 1000 60) (eN Bs [.int (zn is),.list [.int a,.int b,.int c]] 15) (.sub (.var 11) (.lit (.int 0)))=some (.int a):=zkl (a:=.list [.int a,.int b,.int c]) (b:=.int 0) rfl rfl rfl
  have tt:tr (FL tb2 S T 1000 60) (eN Bs [.int (zn is),.list [.int a,.int b,.int c]] 15) (.val (.cmp .Gt (.sub (.var 11) (.lit (.int 0))) (.lit (.int 0))))=some (decide (0 < a)):=zai (zax (b:=.int 0) s0 rfl rfl) rfl
  by_cases ha:0 < a
  ·rw[hxe,if_pos ha]
   exact zvP (by rw[tt,decide_eq_true ha]) (mod_M s0)
  ·rw[hxe,if_neg ha]
   exact zvQ (by rw[tt,decide_eq_false ha]) (zol (mod_M (zol s0 rfl)) rfl)
 have t15:ev (FL tb2 S T 1000 60) (eN Bs [.int (zn is),.list [.int a,.int b,.int c],.int x] 14) (.bin .Add (.bin .Add (.var 12) (.lit (.int 1))) (.bin .Mod (.sub (.var 11) (.lit (.int 1))) (.bin .Pow (.lit (.int 10)) (.lit (.int 600)))))=some (.int y):=by
  rw[hye]
  exact zk (zk (a:=.int x) (b:=.int 1) rfl rfl rfl) (mod_M (zkl (a:=.list [.int a,.int b,.int c]) (b:=.int 1) rfl rfl rfl)) rfl
 have t16:ev (FL tb2 S T 1000 60) (eN Bs [.int (zn is),.list [.int a,.int b,.int c],.int x,.int y] 13) (.bin .Sub (.bin .Sub (.var 12) (.lit (.int 1))) (.bin .Mod (.sub (.var 11) (.lit (.int 2))) (.bin .Pow (.lit (.int 10)) (.lit (.int 600)))))=some (.int z):=by
  rw[hze]
  exact zk (zk (a:=.int x) (b:=.int 1) rfl rfl rfl) (mod_M (zkl (a:=.list [.int a,.int b,.int c]) (b:=.int 2) rfl rfl rfl)) rfl
 have t17:ev (FL tb2 S T 1000 60) (eN Bs [.int (zn is),.list [.int a,.int b,.int c],.int x,.int y,.int z] 12) (.bin .Add (.meth .count (.var 6) [.lit (.str [102])]) (.lit (.int 2)))=some (.int (R.p+2:Nat)) :=
  zk (zdU (a:=.str R.f) rfl (zb (d:=.str [102]) rfl zm) (by simp only[zdH,C1];rfl)) (b:=.int 2) rfl (by simp[zlt])
 have t18:ev (FL tb2 S T 1000 60) (eN Bs [.int (zn is),.list [.int a,.int b,.int c],.int x,.int y,.int z,.int (R.p+2:Nat)] 11) (.bin .Add (.meth .count (.var 6) [.lit (.str [105])]) (.lit (.int 1)))=some (.int (R.q+1:Nat)) :=
  zk (zdU (a:=.str R.f) rfl (zb (d:=.str [105]) rfl zm) (by simp only[zdH,C2];rfl)) (b:=.int 1) rfl (by simp[zlt])
 have t19:ev (FL tb2 S T 1000 60) (eN Bs [.int (zn is),.list [.int a,.int b,.int c],.int x,.int y,.int z,.int (R.p+2:Nat),.int (R.q+1:Nat)] 10) (.meth .count (.var 6) [.lit (.str [108])])=some (.int (R.r:Nat)) :=
  zdU (a:=.str R.f) rfl (zb (d:=.str [108]) rfl zm) (by simp only[zdH,C3])
 have t20:ev (FL tb2 S T 1000 60) (eN Bs [.int (zn is),.list [.int a,.int b,.int c],.int x,.int y,.int z,.int (R.p+2:Nat),.int (R.q+1:Nat),.int (R.r:Nat)] 9) (.call 2 [.comp 0 [14,12,13] (.it (.var 7)) [] elW])=some (.int (zn (R.cts.map (wgt x y z)))):=by
  have wl:R.ws.length≤2 ^ 20:=by
   have:=List.all_eq_true.mp zyh R hR
   simp only[Bool.and_eq_true,decide_eq_true_eq]at this
   lia
  refine zx (ds:=[.list ((R.cts.map (wgt x y z)).map .int)]) (zb ?_ zm) ?_
  ·rw[zfT (d:=zeX R.ws) (ds:=[.int z,.int x,.int y]) rfl rfl]
   have i0:zce 0 (zeX R.ws)=some (R.ws.map .str):=if_pos (zlA _)
   rw[i0,Option.bind_some,if_neg (by simp;lia)]
   have:=zeS (F:=(FL tb2 S T 1000 60)) hbx hby hbz (by decide) R.ws R.cts R1 R3
   simp only[List.map_cons,List.map_nil]
   rw[this]
   simp
  ·rw[fbi (by decide)]
   simp only[zoU,zdK,Option.map_some]
 have t21:ev (FL tb2 S T 1000 60) (eN Bs [.int (zn is),.list [.int a,.int b,.int c],.int x,.int y,.int z,.int (R.p+2:Nat),.int (R.q+1:Nat),.int (R.r:Nat),.int (zn (R.cts.map (wgt x y z)))] 8) (.call 64 [.var 12,.var 13,.var 14,.lit (.int 2),.lit (.int 1),.lit (.int 0)])=some (.int (six x y z 2 1 0)) :=
  zx (ds:=[.int x,.int y,.int z,.int (2:Nat),.int (1:Nat),.int (0:Nat)]) rfl (f64 hbx hby hbz (by decide) (by decide) (by decide) (by decide))
 have t22:ev (FL tb2 S T 1000 60) (eN Bs [.int (zn is),.list [.int a,.int b,.int c],.int x,.int y,.int z,.int (R.p+2:Nat),.int (R.q+1:Nat),.int (R.r:Nat),.int (zn (R.cts.map (wgt x y z))),.int (six x y z 2 1 0)] 7) (.bin .Mod (.var 10) (.var 19))=some (.int ((zn is).fmod (six x y z 2 1 0))) :=
  zk (a:=.int (zn is)) (b:=.int (six x y z 2 1 0)) rfl rfl (if_pos (by simp;lia))
 have t23:tr (FL tb2 S T 1000 60) (eN Bs [.int (zn is),.list [.int a,.int b,.int c],.int x,.int y,.int z,.int (R.p+2:Nat),.int (R.q+1:Nat),.int (R.r:Nat),.int (zn (R.cts.map (wgt x y z))),.int (six x y z 2 1 0),.int ((zn is).fmod (six x y z 2 1 0))] 6) (.val (.cmp .NotEq (.call 28 [.bin .Add (.call 64 [.var 12,.var 13,.var 14,.var 15,.var 16,.var 17]) (.var 20),.var 19]) (.tup [.var 18,.var 20])))=some false:=by
  refine zai (zax (a:=.tup [.int (zn (R.cts.map (wgt x y z))),.int ((zn is).fmod (six x y z 2 1 0))]) (b:=.tup [.int (zn (R.cts.map (wgt x y z))),.int ((zn is).fmod (six x y z 2 1 0))]) (p:=false) (zx (ds:=[.int (six x y z (R.p+2) (R.q+1) R.r+(zn is).fmod (six x y z 2 1 0)),.int (six x y z 2 1 0)]) (zb (zk (zx (ds:=[.int x,.int y,.int z,.int (R.p+2:Nat),.int (R.q+1:Nat),.int (R.r:Nat)]) rfl (f64 hbx hby hbz (by decide) (by lia) (by lia) (by lia))) (b:=.int ((zn is).fmod (six x y z 2 1 0))) rfl rfl) (zb (d:=.int (six x y z 2 1 0)) rfl zm)) ?_) rfl ?_) rfl
  ·rw[f28 (Int.ne_of_lt hneg) btot (zbE bu (by decide)),← W,dv1,dv2]
  ·simp
 refine⟨.list [.int a,.int b,.int c],x,y,z,(R.p+2:Nat),(R.q+1:Nat),(R.r:Nat),zn (R.cts.map (wgt x y z)),six x y z 2 1 0,(zn is).fmod (six x y z 2 1 0),rfl,rfl,rfl,λrest=>?_⟩
 exact(za (zE (vs:=[]) rfl t12 rfl)).trans ((za (zE rfl h3 rfl)).trans ((za (zE rfl t14 rfl)).trans ((za (zE rfl t15 rfl)).trans ((za (zE rfl t16 rfl)).trans ((za (zE rfl t17 rfl)).trans ((za (zE rfl t18 rfl)).trans
  ((za (zE rfl t19 rfl)).trans ((za (zE rfl t20 rfl)).trans ((za (zE rfl t21 rfl)).trans ((za (zE rfl t22 rfl)).trans (za (zbf t23))))))))))))
end
end Mine.Internal
end

noncomputable section
open PySem PySem.Builtin.Int
set_option maxRecDepth 10000
namespace Mine.Internal
theorem ziI:∀l:List Int,eqs (l.map .int) (l.map .int)=some true
 | []=>rfl
 | a::r=>by simp[ziI r]
theorem zkk {m:Nat}:∀{l:List Int},InD m l→0 < l.getLastD 0→2 ^ (m*(l.length - 1))≤val m l
 | [],_,h=>by simp at h
 | [d],hi,h=>by
  simp at h
  simp[zdn,zdo];lia
 | d::e::r,hi,h=>by
  have h':0 < (e::r).getLastD 0:=by simpa using h
  have ih:=zkk (l:=e::r) (λx hx=>hi x (by simp[hx])) h'
  have e1:m*((d::e::r).length - 1)=m*((e::r).length - 1)+m:=by
   simp only[List.length_cons,Nat.add_sub_cancel]
   rw[Nat.mul_succ]
  rw[e1,Int.pow_add]
  have h2:=Int.mul_le_mul_of_nonneg_right ih (Int.le_of_lt (p2 m))
  have h3:=(hi d (by simp)).1
  show _≤d+val m (e::r)*2 ^ m
  lia
theorem znJ {m:Nat}{l:List Int} (hm:0 < m) (h1:InD m l) (h2:0 < l.getLastD 0):zfn m ((intBits (val m l)+m - 1) / m) (val m l)=l:=by
 have b:=zcx h1
 have t:=zkk h1 h2
 have hl:0 < l.length:=by
  cases l with
  | nil=>simp at h2
  | cons a r=>simp
 have c1:=zah b.1 b.2
 have c2:=zlZ t
 have e:(intBits (val m l)+m - 1) / m=l.length:=by
  obtain⟨n,hn⟩:∃n,l.length=n+1:=⟨l.length - 1,by lia⟩
  rw[hn]at c1 c2 ⊢
  rw[Nat.add_sub_cancel]at c2
  rw[Nat.mul_succ]at c1
  apply Nat.div_eq_of_lt_le
  ·rw[Nat.succ_mul,Nat.mul_comm n m];lia
  ·rw[Nat.succ_mul,Nat.succ_mul,Nat.mul_comm n m];lia
 rw[e,ziL h1]
theorem znL {F:Fns}{ρ ρ':zc}{i j:Nat}{elt:T}{d:D} (h:zbd ρ i=some d) (h':zbd ρ' j=some d) :
  ev F ρ (.comp 0 [i] (.call 8 [.bin .Add (.call 4 [.var i]) (.lit (.int 1))]) [] elt)=ev F ρ' (.comp 0 [j] (.call 8 [.bin .Add (.call 4 [.var j]) (.lit (.int 1))]) [] elt):=by
 simp only[zaK,zas,zbG,zaw,zhm,zaJ,zL,zkh,h,h',List.map_cons,List.map_nil]
section
variable {S:Int→Bool}{T:Int→Option (List Nat)}
set_option maxHeartbeats 1000000 in
theorem zwz {u w sp o4 o5:Option B}{R:Rw} (hR:R∈zbi) {is:List Int}{tot:Int}{three:D}{x y z p q r whole under added:Int} (hp:p=(R.p+2:Nat)) (hq:q=(R.q+1:Nat)) (hr:r=(R.r:Nat)) :
  ∃ρ,exs (FL tb2 S T 1000 60) 1000 (eN (bR (some (.fz (.list (is.map .int)))) u w sp o4 o5 R) [.int tot,three,.int x,.int y,.int z,.int p,.int q,.int r,.int whole,.int under,.int added] 6) (zaR.drop 24)=some (.ret (.bool true),ρ):=by
 subst hp;subst hq;subst hr
 refine zeR (zgu hR) λR1 R2 R3 R4=>?_
 have K:=List.all_eq_true.mp zyh R hR
 simp only[Bool.and_eq_true,decide_eq_true_eq,List.all_eq_true]at K
 obtain⟨⟨⟨K1,K2⟩,K3⟩,K4⟩:=K
 refine xEA (zfO (n:=tot.fdiv 6) (m:=60) (by decide)) λv hv ev60=>?_
 refine xEA (zfO (n:=tot) (m:=6) (by decide)) λi hi ev6=>?_
 obtain⟨m,hm⟩:∃m,m=5+v:=⟨_,rfl⟩
 have B32:(32:Int)≤2 ^ m:=by
  have:=zqb (show 5≤m by lia)
  exact Int.le_trans (by decide) this
 have hB64:(2:Int) ^ m < 2 ^ (m+1):=by rw[Int.pow_succ];lia
 have b1:intBits (1:Int)≤400:=by decide
 have bB:intBits ((2:Int) ^ m)≤65:=zbE (zah (by lia) hB64) (by lia)
 have bB5:intBits (((2:Int) ^ m) ^ 5)≤400:=zbE (zeN (k:=5) bB) (by decide)
 have bB':intBits ((2:Int) ^ m)≤400:=zbE bB (by decide)
 have Wi:=zsG hR 1 (2 ^ m) ((2 ^ m) ^ 5)
 have Di:=zwo hR m
 rw[Di]at Wi
 have hin:InD m (R.cs.map λ(c:Nat)=>(c:Int)):=λd hd=>by
  refine xEA (List.mem_map.mp hd) λc hc q2_=>?_;subst q2_
  have:=K1 c hc
  lia
 have hlast:0 < (R.cs.map λ(c:Nat)=>(c:Int)).getLastD 0:=by
  rw[List.getLastD_eq_getLast?]at K2 ⊢
  rw[List.getLast?_map]
  cases hh:R.cs.getLast? with
  | none=>rw[hh]at K2;simp at K2
  | some c=>rw[hh]at K2;simp at K2 ⊢;lia
 refine xA (zcx hin) λvb0 vb1=>?_
 have vb:intBits (val m (R.cs.map λ(c:Nat)=>(c:Int)))≤50000:=zbE (zah vb0 vb1) (by
  rw[List.length_map]
  exact Nat.le_trans (Nat.mul_le_mul (show m≤64 by lia) K3) (by decide))
 have hD:=znJ (show 0 < m by lia) hin hlast
 have hD25:=f25 (S:=S) (T:=T) vb0 (show 0 < m by lia) (show m≤50000 by lia) vb
 rw[hD]at hD25
 have hu:six 1 (2 ^ m) ((2 ^ m) ^ 5) 2 1 0≠0:=by
  have h5:(2:Int) ^ m < (2 ^ m) ^ 5:=by
   generalize (2:Int) ^ m=X at B32
   have a1:X*32≤X*X:=Int.mul_le_mul_of_nonneg_left B32 (by lia)
   have a2:1≤X*X:=by lia
   have a3:X*X*1≤X*X*(X*X):=Int.mul_le_mul_of_nonneg_left a2 (by lia)
   have a4:(X*X)*X≤(X*X*(X*X))*X:=Int.mul_le_mul_of_nonneg_right (by lia) (by lia)
   have a5:X*32≤X*X*X:=by
    have:X*X*1≤X*X*X:=Int.mul_le_mul_of_nonneg_left (by lia) (by lia)
    lia
   have e:X ^ 5=X*X*(X*X)*X:=by rw[Int.pow_succ,Int.pow_succ,Int.pow_succ,Int.pow_succ,Int.pow_succ,Int.pow_zero];grind
   rw[e];lia
  have e:six 1 (2 ^ m) ((2 ^ m) ^ 5) 2 1 0=(2 ^ m - 1)*((2 ^ m) ^ 5 - 2 ^ m)*(1 - (2 ^ m) ^ 5):=by unfold six;grind
  rw[e]
  generalize (2:Int) ^ m=X at *
  generalize X ^ 5=Y at *
  have:0 < (X - 1)*(Y - X)*(Y - 1):=Int.mul_pos (Int.mul_pos (by lia) (by lia)) (by lia)
  have e2:(X - 1)*(Y - X)*(1 - Y) = -((X - 1)*(Y - X)*(Y - 1)):=by grind
  lia
 have bu:=zdC (p:=2) (q:=1) (r:=0) b1 bB' bB5
 have bs:intBits (six 1 (2 ^ m) ((2 ^ m) ^ 5) (R.p+2) (R.q+1) R.r)≤39999:=zbE (zdC (p:=R.p+2) (q:=R.q+1) (r:=R.r) b1 bB' bB5) (by
  have:400*(R.p+2+(R.q+1)+R.r)≤400*7:=Nat.mul_le_mul_left _ (by lia)
  lia)
 have f28':=f28 (S:=S) (T:=T) hu bs (zbE bu (by decide))
 have d1:(six 1 (2 ^ m) ((2 ^ m) ^ 5) (R.p+2) (R.q+1) R.r).fdiv (six 1 (2 ^ m) ((2 ^ m) ^ 5) 2 1 0)=val m (R.cs.map λ(c:Nat)=>(c:Int)):=by rw[← Wi,Int.mul_fdiv_cancel _ hu]
 have d2:(six 1 (2 ^ m) ((2 ^ m) ^ 5) (R.p+2) (R.q+1) R.r).fmod (six 1 (2 ^ m) ((2 ^ m) ^ 5) 2 1 0)=0:=by rw[← Wi,Int.mul_fmod_left]
 rw[d1,d2]at f28'
 generalize hV:val m (R.cs.map λ(c:Nat)=>(c:Int))=V at *
 let Bs:=bR (some (.fz (.list (is.map .int)))) u w sp o4 o5 R
 let vs:List D:=[.int tot,three,.int x,.int y,.int z,.int (R.p+2:Nat),.int (R.q+1:Nat),.int (R.r:Nat),.int whole,.int under,.int added]
 have t24:ev (FL tb2 S T 1000 60) (eN Bs vs 6) (.bin .Add (.lit (.int 5)) (.bin .Mod (.bin .FloorDiv (.var 10) (.lit (.int 6))) (.lit (.int 60))))=some (.int (m:Nat)):=by
  have dv:zby tot 6=true:=zcp (by decide) (by decide)
  have dv':zcs .FloorDiv (.int tot) (.int 6)=some (.int (tot.fdiv 6)):=by simp only[zH,zls,dv,if_true]
  refine zk (a:=.int 5) (b:=.int (v:Nat)) rfl (zk (a:=.int (tot.fdiv 6)) (b:=.int 60) (zk (a:=.int tot) (b:=.int 6) rfl rfl dv') rfl ?_) ?_
  ·show some (D.int ((tot.fdiv 6).fmod 60))=_
   rw[show(60:Int)=((60:Nat):Int) from rfl,ev60]
  ·show some (D.int (5+(v:Int)))=_
   rw[hm];simp
 have t25:ev (FL tb2 S T 1000 60) (eN Bs (vs++[.int (m:Nat)]) 5) (.bin .Pow (.lit (.int 2)) (.var 21))=some (.int (2 ^ m)) :=
  zk (a:=.int 2) (b:=.int (m:Nat)) rfl rfl (zkM (by decide) (by lia))
 have tB5:ev (FL tb2 S T 1000 60) (eN Bs (vs++[.int (m:Nat),.int (2 ^ m)]) 4) (.bin .Pow (.var 22) (.lit (.int 5)))=some (.int ((2 ^ m) ^ 5)) :=
  zk (a:=.int (2 ^ m)) (b:=.int (5:Nat)) rfl rfl (zkM (zbE bB (by decide)) (by decide))
 have t26:ev (FL tb2 S T 1000 60) (eN Bs (vs++[.int (m:Nat),.int (2 ^ m)]) 4) (.call 28 [.call 64 [.lit (.int 1),.var 22,.bin .Pow (.var 22) (.lit (.int 5)),.var 15,.var 16,.var 17],.call 64 [.lit (.int 1),.var 22,.bin .Pow (.var 22) (.lit (.int 5)),.lit (.int 2),.lit (.int 1),.lit (.int 0)]])=some (.tup [.int V,.int 0]):=by
  refine zx (zb (zx (zb (d:=.int 1) rfl (zb (d:=.int (2 ^ m)) rfl (zb tB5 (zb (d:=.int (R.p+2:Nat)) rfl (zb (d:=.int (R.q+1:Nat)) rfl (zb (d:=.int (R.r:Nat)) rfl zm)))))) (f64 b1 bB' bB5 (by decide) (by lia) (by lia) (by lia)))
   (zb (zx (zb (d:=.int 1) rfl (zb (d:=.int (2 ^ m)) rfl (zb tB5 (zb (d:=.int (2:Nat)) rfl (zb (d:=.int (1:Nat)) rfl (zb (d:=.int (0:Nat)) rfl zm)))))) (f64 b1 bB' bB5 (by decide) (by decide) (by decide) (by decide))) zm)) f28'
 have s26:ex (FL tb2 S T 1000 60) 1000 (eN Bs (vs++[.int (m:Nat),.int (2 ^ m)]) 4) (.unp [23,24] (.call 28 [.call 64 [.lit (.int 1),.var 22,.bin .Pow (.var 22) (.lit (.int 5)),.var 15,.var 16,.var 17],.call 64 [.lit (.int 1),.var 22,.bin .Pow (.var 22) (.lit (.int 5)),.lit (.int 2),.lit (.int 1),.lit (.int 0)]]))=some (.next,eN Bs (vs++[.int (m:Nat),.int (2 ^ m),.int V,.int 0]) 2):=by
  simp only[zog,t26,Option.bind_some,zkR]
  rfl
 have t27:ev (FL tb2 S T 1000 60) (eN Bs (vs++[.int (m:Nat),.int (2 ^ m),.int V,.int 0]) 2) (.sub (.list (zdr.map λx=>.lit (.str x))) (.bin .Mod (.var 10) (.lit (.int 6))))=some (.str (zdr.getD i [])):=by
  refine zkl (a:=.list (zdr.map .str)) (b:=.int (i:Nat)) rfl (zk (a:=.int tot) (b:=.int 6) rfl rfl ?_) ?_
  ·show some (D.int (tot.fmod 6))=_
   rw[show(6:Int)=((6:Nat):Int) from rfl,ev6]
  ·have c:i=0∨i=1∨i=2∨i=3∨i=4∨i=5:=by lia
   rcases c with rfl | rfl | rfl | rfl | rfl | rfl<;>rfl
 have hpr:zdr.getD i []∈zdr:=by
  have c:i=0∨i=1∨i=2∨i=3∨i=4∨i=5:=by lia
  rcases c with rfl | rfl | rfl | rfl | rfl | rfl<;>decide
 generalize zdr.getD i []=pr at t27 hpr
 have P1:=zoz (List.all_eq_true.mp (List.all_eq_true.mp (k_pl (S:=S) (T:=T)) R hR) pr hpr)
 have P2:=zoz (List.all_eq_true.mp (List.all_eq_true.mp (zwM (S:=S) (T:=T)) R hR) pr hpr)
 have t28:ev (FL tb2 S T 1000 60) (eN Bs (vs++[.int (m:Nat),.int (2 ^ m),.int V,.int 0,.str pr]) 1) (.comp 0 [25] (.it (.var 7)) [] (.bin .Add (.meth .count (.var 0) [.sub (.var 1) (.lit (.int 0))]) (.bin .Mult (.lit (.int 5)) (.meth .count (.var 0) [.sub (.var 1) (.lit (.int 1))]))))=some (.list ((plL R pr).map .int)):=by
  rw[zfT (d:=zeX R.ws) (ds:=[.str pr]) rfl rfl]
  exact P1
 have t29:ev (FL tb2 S T 1000 60) (eN Bs (vs++[.int (m:Nat),.int (2 ^ m),.int V,.int 0,.str pr,.list ((plL R pr).map .int)]) 0) (.comp 0 [26] (.call 8 [.bin .Add (.call 4 [.var 26]) (.lit (.int 1))]) [] (.meth .count (.var 1) [.var 0]))=some (.list ((R.cs.map λ(c:Nat)=>(c:Int)).map .int)):=(znL (d:=.list ((plL R pr).map .int)) rfl rfl).trans P2
 refine⟨_,(za (zE (vs:=vs) rfl t24 rfl)).trans ((za (zE (vs:=vs++[.int (m:Nat)]) rfl t25 rfl)).trans ((za s26).trans ((za (zE (vs:=vs++[.int (m:Nat),.int (2 ^ m),.int V,.int 0]) rfl t27 rfl)).trans ((za (zE (vs:=vs++[.int (m:Nat),.int (2 ^ m),.int V,.int 0,.str pr]) rfl t28 rfl)).trans
  (zO (ρ:=eN Bs (vs++[.int (m:Nat),.int (2 ^ m),.int V,.int 0,.str pr,.list ((plL R pr).map .int)]) 0) ?_ rfl)))))⟩
 have c1:ev (FL tb2 S T 1000 60) (eN Bs (vs++[.int (m:Nat),.int (2 ^ m),.int V,.int 0,.str pr,.list ((plL R pr).map .int)]) 0) (.cmp .Eq (.var 24) (.lit (.int 0)))=some (.bool true):=zax (a:=.int 0) (b:=.int 0) rfl rfl rfl
 have c2:ev (FL tb2 S T 1000 60) (eN Bs (vs++[.int (m:Nat),.int (2 ^ m),.int V,.int 0,.str pr,.list ((plL R pr).map .int)]) 0) (.cmp .Eq (.call 25 [.var 23,.var 21]) (.comp 0 [26] (.call 8 [.bin .Add (.call 4 [.var 26]) (.lit (.int 1))]) [] (.meth .count (.var 1) [.var 0])))=some (.bool true):=by
  refine zax (zx (ds:=[.int V,.int (m:Nat)]) rfl hD25) t29 ?_
  simp only[zlT,znK,if_true,ziI]
 simp only[zaK,zas,zhY,zrO,zaw,zdS,zhm]at c1 c2 ⊢
 simp only[Option.bind_some]
 exact c2
end
end Mine.Internal
end

noncomputable section
open PySem PySem.Builtin.Int
set_option maxRecDepth 10000
namespace Mine.Internal
noncomputable def zuX:Nat→List (List Nat)
 | 0=>[[]]
 | n+1=>(zuX n).flatMap λw=>[102::w,105::w,108::w]
theorem zis:∀{w:List Nat},(∀c∈w,c=102∨c=105∨c=108)→w∈zuX w.length
 | [],_=>by simp[zuX]
 | c::w,h=>by
  simp only[List.length_cons,zuX,List.mem_flatMap]
  refine⟨w,zis λd hd=>h d (by simp[hd]),?_⟩
  rcases h c (by simp) with rfl | rfl | rfl<;>simp
theorem zpx:[1,2,3,4].all (λn=>(zuX n).all λw=>(zmM.map (·.1)).contains w)=true:=by kernel_rfl
theorem zpd {w:List Nat} (h0:w≠[]) (h1:w.length≤4) (h2:∀c∈w,c=102∨c=105∨c=108):∃t∈zmM,t.1=w:=by
 have hn:w.length∈[1,2,3,4]:=by
  have:w.length≠0:=by simpa using h0
  simp;lia
 have:=List.all_eq_true.mp (List.all_eq_true.mp zpx _ hn) w (zis h2)
 rw[List.contains_iff_mem,List.mem_map]at this
 exact this
section
variable {S:Int→Bool}{T:Int→Option (List Nat)}
theorem zns {s:List D}:exs (FL tb2 S T 1000 60) 1000 (some (.fz (.list s))::List.replicate 26 none) zaR=exs (FL tb2 S T 1000 60) 1000 (eA s unD [] [] none none) (zaR.drop 3):=by
 have u0:ev (FL tb2 S T 1000 60) (some (.fz (.list s))::List.replicate 26 none) (.bin .Add (.list [.lit (.int 173),.lit (.int 847),.lit (.int 6150),.lit (.int 6155),.lit (.int 6156),.lit (.int 6157),.lit (.int 8203),.lit (.int 8204),.lit (.int 8205),.lit (.int 8288),.lit (.int 65279)]) (.lrg [.lit (.int 65024),.lit (.int 65040)]))=some unD:=by kernel_rfl
 exact(za (zE (B:=[some (.fz (.list s))]) (vs:=[]) (n:=25) rfl u0 rfl)).trans ((za (zE (B:=[some (.fz (.list s))]) (vs:=[unD]) (n:=24) (d:=.str []) rfl rfl rfl)).trans ((za (zE (B:=[some (.fz (.list s))]) (vs:=[unD,.str []]) (n:=23) (d:=.str []) rfl rfl rfl)).trans rfl))
theorem ziT:∀{ps:List (Nat×Nat)},(∀p∈ps,p.1 < 14∧p.2 < 27)→∀c∈zbo ps,c=102∨c=105∨c=108:=λ{ps} h c hc=>by
 unfold zbo at hc
 refine xEA (List.mem_flatMap.mp hc) λp hp hc=>?_
 exact(zit (h p hp).1).2.2 c hc
theorem zvM {ps:List (Nat×Nat)} (h:∀p∈ps,p.1 < 14∧p.2 < 27) (hn:ps≠[]):zbo ps≠[]:=by
 cases ps with
 | nil=>exact absurd rfl hn
 | cons p r =>
  intro e
  have:=(zit (h p (by simp)).1).1
  have e':lt2 p.1++zbo r=[]:=e
  have h2:=(List.append_eq_nil_iff.mp e').1
  rw[h2]at this
  exact absurd this (by decide)
theorem zws (H:Signs2 S T) {is:List Int} (hl:is.length≤63):zbJ (FL tb2 S T 1000 60) 1000 26 zaR [.list (is.map .int)]=some (.bool true):=by
 refine xEA (zqf (S:=S) (T:=T) hl) λl hl0 hnum=>?_
 refine zcb (zqn (S:=S) (T:=T) (s:=is.map .int) l [] none none ⟨λp h=>(nomatch h),by decide,by decide⟩ (.inl hl0)) λps o4 o5 P hps L=>?_
 have s3:ex (FL tb2 S T 1000 60) 1000 (eA (is.map .int) unD [] [] none none) (zaR.getD 3 .fail)=some (.next,eA (is.map .int) unD (zbo ps) (zcg ps) o4 o5):=by
  show ex (FL tb2 S T 1000 60) 1000 _ (.for_ 0 [4] (.it (.bin .Add (.slc (.var 0) (.lit .none) (.lit (.int 4)) (.lit .none)) (.slc (.list [.lit (.int 1),.lit (.int 6),.lit (.int 3),.lit (.int 4)]) (.call 0 [.var 0]) (.lit .none) (.lit .none)))) zjF)=_
  rw[zke,if_pos (by rfl),hnum,Option.bind_some]
  exact L
 have fold:=zly H ps P.lt
 have s4:ex (FL tb2 S T 1000 60) 1000 (eA (is.map .int) unD (zbo ps) (zcg ps) o4 o5) (zaR.getD 4 .fail)=some (.next,eA (is.map .int) unD (zbo ps) (zcg ps) o4 o5):=by
  show ex (FL tb2 S T 1000 60) 1000 _ (.ite (.val (.cmp .NotEq (.meth .join (.lit (.str [])) [.comp 0 [] (.it (.var 3)) [.not (.val (.call 30 [.var 0]))] (.call 31 [.var 0])]) (.var 2))) [.ret (.lit (.bool false))] [])=_
  have cc:ev (FL tb2 S T 1000 60) (eA (is.map .int) unD (zbo ps) (zcg ps) o4 o5) (.comp 0 [] (.it (.var 3)) [.not (.val (.call 30 [.var 0]))] (.call 31 [.var 0]))=some (.list (ps.map λp=>.str (lt2 p.1))):=by
   rw[zfT (d:=.str (zcg ps)) (ds:=[]) rfl rfl]
   simp only[(show zce 0 (.str (zcg ps))=some ((zcg ps).map λc=>.str [c]) from rfl),Option.bind_some]
   rw[if_neg (by have:=P.sp;simp;lia)]
   simp only[List.map_nil]
   rw[fold]
   rfl
  have jj:ev (FL tb2 S T 1000 60) (eA (is.map .int) unD (zbo ps) (zcg ps) o4 o5) (.meth .join (.lit (.str [])) [.comp 0 [] (.it (.var 3)) [.not (.val (.call 30 [.var 0]))] (.call 31 [.var 0])])=some (.str (zbo ps)):=by
   refine zdU (a:=.str []) rfl (zb cc zm) ?_
   simp only[zjo,zid,Option.bind_some]
   have e1:(ps.map λp=>lt2 p.1).flatten=zbo ps:=by unfold zbo;rw[List.flatMap_def]
   have e2:((ps.map λp=>lt2 p.1).map (·.length)).sum=(zbo ps).length:=by rw[← e1,List.length_flatten]
   rw[e2,e1,if_pos (by have:=P.len;have:=P.few;simp;lia)]
  refine zbf (zai (zax (a:=.str (zbo ps)) (b:=.str (zbo ps)) (p:=false) jj rfl ?_) rfl)
  simp
 refine xEA (zpd (zvM P.lt hps) P.len (ziT P.lt)) λt ht htw=>?_
 have K:=List.all_eq_true.mp (c61 (S:=S) (T:=T)) t ht
 simp only[Bool.and_eq_true,decide_eq_true_eq]at K
 obtain⟨⟨K1,K2⟩,K3⟩:=K
 have K1:=zoy K1
 have K2:=zoy K2
 have Ks:=List.all_eq_true.mp ztO t ht
 rw[htw]at K1 K2
 have hR:zbi.getD t.2.1 rw0∈zbi:=by
  have hlen:t.2.1 < zbi.length:=K3
  rw[List.getD_eq_getElem?_getD,List.getElem?_eq_getElem hlen]
  exact List.getElem_mem hlen
 generalize zbi.getD t.2.1 rw0=R at *
 rw[beq_iff_eq]at Ks
 have s5:ex (FL tb2 S T 1000 60) 1000 (eA (is.map .int) unD (zbo ps) (zcg ps) o4 o5) (.set 6 (.call 61 [.var 2,.list [.lit (.str [102,105]),.lit (.str [105,108])]]))=some (.next,e6 (some (.fz (.list (is.map .int)))) (some (.fz unD)) (some (.fz (.str (zbo ps)))) (some (.fz (.str (zcg ps)))) o4 o5 R.f):=by
  have:ev (FL tb2 S T 1000 60) (eA (is.map .int) unD (zbo ps) (zcg ps) o4 o5) (.call 61 [.var 2,.list [.lit (.str [102,105]),.lit (.str [105,108])]])=some (.str R.f):=zx (ds:=[.str (zbo ps),fiD]) rfl K1
  simp only[zhV,this,Option.bind_some,zqF,Bool.true_or,if_true]
  rfl
 have s11:ex (FL tb2 S T 1000 60) 1000 (e9 (some (.fz (.list (is.map .int)))) (some (.fz unD)) (some (.fz (.str (zbo ps)))) (some (.fz (.str (zcg ps)))) o4 o5 R) (zaR.getD 11 .fail)=some (.next,e9 (some (.fz (.list (is.map .int)))) (some (.fz unD)) (some (.fz (.str (zbo ps)))) (some (.fz (.str (zcg ps)))) o4 o5 R):=by
  show ex (FL tb2 S T 1000 60) 1000 _ (.ite (.val (.cmp .NotEq (.comp 0 [8,9] (.it (.var 7)) [.and (.val (.cmp .In (.var 0) (.var 1))) (.val (.cmp .In (.var 0) (.var 2)))] (.var 0)) (.list [.call 61 [.var 2,.list [.lit (.str [105,108]),.lit (.str [102,105])]]]))) [.ret (.lit (.bool false))] [])=_
  have c1:ev (FL tb2 S T 1000 60) (e9 (some (.fz (.list (is.map .int)))) (some (.fz unD)) (some (.fz (.str (zbo ps)))) (some (.fz (.str (zcg ps)))) o4 o5 R) (.comp 0 [8,9] (.it (.var 7)) [.and (.val (.cmp .In (.var 0) (.var 1))) (.val (.cmp .In (.var 0) (.var 2)))] (.var 0))=some (zeX [t.2.2]):=by
   rw[zfT (d:=zeX R.ws) (ds:=[zeX R.hs,zeX R.os]) rfl rfl,← Ks]
   exact ztQ (List.all_eq_true.mp (znu (S:=S) (T:=T)) R hR)
  have c2:ev (FL tb2 S T 1000 60) (e9 (some (.fz (.list (is.map .int)))) (some (.fz unD)) (some (.fz (.str (zbo ps)))) (some (.fz (.str (zcg ps)))) o4 o5 R) (.list [.call 61 [.var 2,.list [.lit (.str [105,108]),.lit (.str [102,105])]]])=some (zeX [t.2.2]):=by
   have:evs (FL tb2 S T 1000 60) (e9 (some (.fz (.list (is.map .int)))) (some (.fz unD)) (some (.fz (.str (zbo ps)))) (some (.fz (.str (zcg ps)))) o4 o5 R) [.call 61 [.var 2,.list [.lit (.str [105,108]),.lit (.str [102,105])]]]=some [.str t.2.2]:=zb (zx (ds:=[.str (zbo ps),ilD]) rfl K2) zm
   simp only[zhl]at this ⊢
   rw[this]
   rfl
  refine zbf (zai (zax (p:=false) c1 c2 ?_) rfl)
  simp[zeX]
 obtain⟨three,x,y,z,p,q,r,whole,under,added,hp,hq,hr,X⟩:=zwA (S:=S) (T:=T) (u:=some (.fz unD)) (w:=some (.fz (.str (zbo ps)))) (sp:=some (.fz (.str (zcg ps)))) (o4:=o4) (o5:=o5) hR hl
 refine xE (zwz (S:=S) (T:=T) (u:=some (.fz unD)) (w:=some (.fz (.str (zbo ps)))) (sp:=some (.fz (.str (zcg ps)))) (o4:=o4) (o5:=o5) hR (is:=is) (tot:=zn is) (three:=three) (x:=x) (y:=y) (z:=z) (whole:=whole) (under:=under) (added:=added) hp hq hr) λρ Y=>?_
 have C:=zwp (S:=S) (T:=T) hR (s:=some (.fz (.list (is.map .int)))) (u:=some (.fz unD)) (w:=some (.fz (.str (zbo ps)))) (sp:=some (.fz (.str (zcg ps)))) (o4:=o4) (o5:=o5)
 have app:∀(us vs:List U) (ρ ρ':zc),exs (FL tb2 S T 1000 60) 1000 ρ us=some (.next,ρ')→exs (FL tb2 S T 1000 60) 1000 ρ (us++vs)=exs (FL tb2 S T 1000 60) 1000 ρ' vs:=λus=>by
  induction us with
  | nil=>intro vs ρ ρ' h;cases h;rfl
  | cons a us ih =>
   intro vs ρ ρ' h
   simp only[zcX,Option.bind_eq_some_iff]at h
   obtain⟨⟨f,ρ1⟩,h1,h2⟩:=h
   cases f with
   | next=>exact(za h1).trans (ih vs ρ1 ρ' h2)
   | brk=>cases h2
   | ret d=>cases h2
 apply zbc
 refine(zns (s:=is.map .int)).trans ?_
 refine(za s3).trans ((za s4).trans ((za s5).trans ?_))
 refine(app zfU (zaR.drop 11) _ _ C).trans ?_
 refine(za s11).trans ?_
 exact(X (zaR.drop 24)).trans Y
end
end Mine.Internal
end

noncomputable section
open PySem PySem.Calls PyProof.Rows PySem.SeqAt PySem.W PySem.Builtin.Int
set_option maxRecDepth 100000
set_option maxHeartbeats 4000000
namespace Mine.Internal
noncomputable abbrev lw2:OpenLaw:=PySem.Challenge.rw_rs0223_02
theorem said2:lw2.wellSaid=true:=by first | exact(congrFun PySem.W.Fast.te9446332074065402090 _).trans (by kernel_rfl) | kernel_rfl
theorem lawTexts2:LawTexts lw2 zsb tb2 (T2 23) zaR (nms zov) 26 (T2 4) (T2 5) zva zuZ zsL zsK where
 tx:=zsa
 iL:=in2 (k:=23) (by decide)
 mL:=zpS
 i25:=in2 (k:=4) (by decide)
 i26:=in2 (k:=5) (by decide)
 m25:=zqm
 m26:=zql
 ne:=by rw[zqm.name,zql.name];decide
 hdef:=by kernel_rfl
 d1:=by kernel_rfl
 d2:=by kernel_rfl
 d3:=by kernel_rfl
 plain:=by kernel_rfl
 fence:=λs=>by kernel_rfl
 imp:=by kernel_rfl
 hann:=by kernel_rfl
 hdoc:=by kernel_rfl
 bare:=by
  unfold Program.bare
  exact⟨by kernel_rfl,by kernel_rfl,by kernel_rfl,by kernel_rfl,by kernel_rfl,by kernel_rfl⟩
 opens:=by kernel_rfl
 frees:=by kernel_rfl
 most:=rfl
 bound:=rfl
 wr:=rfl
 prom:=⟨[.list []],by kernel_rfl,by kernel_rfl⟩
 free2:=by kernel_rfl
theorem zor:(List.range 14).all (λi=>!zjO sl2 (sg2 i:Nat) && ((low (sg2 i)).length.ble 100 && (((λi=>R2.lookup i) (sg2 i:Nat)).getD (low (sg2 i)) == lt2 i)))=true:=by kernel_rfl
theorem zrP:(List.range 27).all (λj=>zjO sl2 (un2 j:Nat))=true:=by kernel_rfl
theorem zsD:Signs2 (zjO sl2) (λi=>R2.lookup i) where
 sg:=λi hi=>zrs (zeO (List.all_eq_true.mp zor i (List.mem_range.mpr hi))).1
 un:=λj hj=>List.all_eq_true.mp zrP j (List.mem_range.mpr hj)
 lo:=λi hi =>
  have h:=zeO (zeO (List.all_eq_true.mp zor i (List.mem_range.mpr hi))).2
  ⟨Nat.le_of_ble_eq_true h.1,eq_of_beq h.2⟩
theorem zhz {P:Params}{x:Str} (h:startupNames.contains x=false):mgB P x=none:=zbU λhm=>by rw[List.contains_iff_mem.mpr hm]at h;cases h
theorem walkG2 (w:World) (s₀:Shared) (hh:s₀.heap=boot_heap w.params) (A:Around) (c Pl F:Addr) (sB:Shared) (hA:Rm 0 A) (hPl:s₀.heap.objs.size≤Pl) (hk:∀b o,s₀.heap.get? b=some o→sB.heap.get? b=some o) (ho:sB.os=s₀.os) (M0:MS c Pl sB (mgB w.params) [] #[] [] sB) :
  wpAny (model lw2.prog w) A (execs (behindTheImports lw2.prog) (mainEnv lw2.prog c F)) (λf s'=>AfterG lw2.prog w s₀ (mgB w.params) (T2 4) (T2 5) zsb sl2 R2 s'∧s'.gens = #[]) (λ_ _=>False) sB:=by
 have:=zvN w s₀ (mgB w.params) (mbB w.params) (by rw[hh];exact Heap.Ns.of_isNs (zbX w.params)) (zhz (by kernel_rfl)) (zhz (by kernel_rfl)) (zhz (by kernel_rfl)) (zaW (by decide) (by kernel_rfl)) (zaW (by decide) (by kernel_rfl)) (zaW (by decide) (by kernel_rfl)) A c Pl F sB hA hPl hk ho M0
 rw[← znU]at this
 exact this
theorem pureL2:∀is:List Int,is.length≤63→zbJ (FL tb2 (zjO sl2) (λi=>R2.lookup i) 1000 60) 1000 26 zaR [.list (is.map .int)]=some (.bool true):=λis hl=>zws zsD hl
end Mine.Internal
end
theorem PySem.Challenge.cw_rs0223_02_holds : PySem.Challenge.rw_rs0223_02.Holds :=
 ⟨Mine.Internal.said2,Mine.Internal.law_hand Mine.Internal.lawTexts2 (PySem.W.row_said Mine.Internal.said2) Mine.Internal.walkG2 Mine.Internal.pureL2⟩
