/- Two short names. -/
import Derived.Lib.Hide
namespace Go.Proofs.YtcpjclakdpjjfaaGreatDoor
theorem Lh {p:Prop}(h:p):RowKit.Hid p:=h
theorem Aj {a b:Prop}(x:a)(y:b):a∧b:=⟨x,y⟩
end Go.Proofs.YtcpjclakdpjjfaaGreatDoor
