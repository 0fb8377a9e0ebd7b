/-
  RESULTS THAT LIVE IN MEMORY: handed back by one load each.
-/
import Derived.Test.Qxb6601491aNgL
namespace Go.Proofs.Qxb6601491a
open Go.RowKit

theorem results_vld {P : Program} {fn : Func} {p : Tmp} {ty : TypeId} (h : fn.results = #[.cell p ty]) {tmps : Array Value} {w : World} {a : Addr} {v : Value} (hp : tmps.getD p undef = .pointer (some a)) (hv : (vld ty a).run P w = .ok v w) :
    (results fn tmps).run P w = .ok v w := by
  have hp' : tmps[p]?.getD undef = .pointer (some a) := by simpa using hp
  have hv' : (loadVar ty a).run P w = .ok v w := hv
  simp [results, h, hp', asAddr, hv']

theorem results_vld2 {P : Program} {fn : Func} {p q : Tmp} {ty ty' : TypeId} (h : fn.results = #[.cell p ty, .cell q ty']) {tmps : Array Value} {w : World} {a b : Addr} {v u : Value}
    (hp : tmps.getD p undef = .pointer (some a)) (hq : tmps.getD q undef = .pointer (some b)) (hv : (vld ty a).run P w = .ok v w) (hu : (vld ty' b).run P w = .ok u w) :
    (results fn tmps).run P w = .ok (.tuple #[v, u]) w := by
  have hp' : tmps[p]?.getD undef = .pointer (some a) := by simpa using hp
  have hq' : tmps[q]?.getD undef = .pointer (some b) := by simpa using hq
  have hv' : (loadVar ty a).run P w = .ok v w := hv
  have hu' : (loadVar ty' b).run P w = .ok u w := hu
  simp [results, h, hp', hq', asAddr, hv', hu']

theorem results_tmp5 {P : Program} {fn : Func} {p q r s t : Tmp} (h : fn.results = #[.tmp p, .tmp q, .tmp r, .tmp s, .tmp t]) (tmps : Array Value) (w : World) :
    (results fn tmps).run P w = .ok (.tuple #[tmps.getD p undef, tmps.getD q undef, tmps.getD r undef, tmps.getD s undef, tmps.getD t undef]) w := by
  simp [results, h]
end Go.Proofs.Qxb6601491a
